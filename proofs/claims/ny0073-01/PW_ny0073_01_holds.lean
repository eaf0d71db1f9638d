import PyProof.Rows.All
import Wide.All
import OpenK.AllK
import Wide.FinOn
import KE.KSortAsk
import KE.KSuperObj
import KE.KNest
import KE.KSortKey
import KE.KRevSl
import PySem.Challenge.RW_ny0073_01
set_option Elab.async false
section
open PySem PySem.W PySem.Calls PyProof.Rows
set_option maxRecDepth 100000
namespace Mine

abbrev P : Program := PySem.Challenge.pw_ny0073_01
abbrev MM (w : World) : Model := model P w

/-- the text's k-th statement, a def: its name, parameters, body, scope -/
def fnOf (k : Nat) : Str × Arguments × List Stmt × Scope := match P.main.body[k]? with
  | some (.FunctionDef n a b _ _ _ sc _ _ _) => (n, a, b, sc)
  | _ => ("", ⟨[], [], none, [], [], none, []⟩, [], default)
def fnName (k : Nat) : Str := (fnOf k).1
def fnArgs (k : Nat) : Arguments := (fnOf k).2.1
def fnBody (k : Nat) : List Stmt := (fnOf k).2.2.1
def fnScope (k : Nat) : Scope := (fnOf k).2.2.2
/-- a def of the top: its statement's number, its code object, its defaults -/
def fdOf (k : Nat) (c : Addr) (dv pm doc : Value) : FuncData := { docDef (fnName k) (fnArgs k) (fnBody k) (fnScope k) pm (.ref c) doc with defaults := dv }

def globs : List (Str × Value) := [("unorderable_list_difference", .ref 21), ("three_way_cmp", .ref 28), ("cmp_to_key", .ref 35), ("_initial_missing", .ref 36), ("reduce", .ref 44), ("_grouping_intervals", .ref 51),
  ("_law_drawn", .ref 56), ("_law_walked", .ref 63), ("_law_told", .ref 68), ("_law_laid", .ref 75), ("_law_bag", .ref 82), ("_law_often", .ref 87), ("_law_beyond", .ref 92), ("_law_kernel", .ref 99), ("_law_due", .ref 104)]
def builts : List (Str × Value) := [("list", .type "list"), ("len", .builtin "len"), ("range", .type "range"), ("sum", .builtin "sum"), ("min", .builtin "min"), ("sorted", .builtin "sorted"), ("iter", .builtin "iter"), ("ValueError", .type "ValueError")]
/-- address, statement, code object, defaults -/
def fns : List (Addr × Nat × Addr × Value) := [(21, 1, 20, .none), (28, 2, 27, .none), (35, 4, 34, .none), (44, 6, 43, .ref 37), (51, 9, 50, .none), (56, 11, 55, .none), (63, 12, 62, .none), (68, 13, 67, .none), (75, 14, 74, .none), (82, 15, 81, .none),
  (87, 16, 86, .none), (92, 17, 91, .none), (99, 18, 98, .none), (104, 19, 103, .none), (109, 20, 108, .none)]

structure TopOk (h : Heap) : Prop where
  glob : ∃ mg, h.Ns mainGlobals mg ∧ (∀ n v, globs.lookup n = some v → mg n = some v) ∧ (∀ n v, builts.lookup n = some v → mg n = none) ∧ ∃ t, mg "CHAR_MAX" = some (.int 127 t)
  built : ∃ mb, h.Ns builtinsNs mb ∧ ∀ n v, builts.lookup n = some v → mb n = some v
  lim : h.NoLimit
  fn : ∀ a k c dv, fns.lookup a = some (k, c, dv) → ∃ o pm doc, h.get? a = some o ∧ o.data = .func (fdOf k c dv pm doc) ∧ h.CodeRec (.ref c) (fnName k)
  dflt : ∃ o n, h.get? 37 = some o ∧ o.cls = .type "tuple" ∧ o.data = .seq #[.ref 36] n
  miss : ∃ o, h.get? 36 = some o ∧ o.cls = .type "object"

/-- no list -/
def NotList (o : Obj) : Prop := ∀ items n, o.cls = .type "list" → o.data ≠ .seq items n
/-- all but the two tables of code objects is kept -/
def KeepH (h h' : Heap) : Prop := ∀ b o, b ≠ 30 → b ≠ 77 → h.get? b = some o → h'.get? b = some o
/-- all but the two tables and the lists -/
def KeepN (h h' : Heap) : Prop := ∀ b o, b ≠ 30 → b ≠ 77 → NotList o → h.get? b = some o → h'.get? b = some o

theorem ns_keep {h h' : Heap} {a : Addr} {m : Str → Option Value} (k : ∀ o, h.get? a = some o → h'.get? a = some o) (n : h.Ns a m) : h'.Ns a m := by
  obtain ⟨o, es, ep, h1, h2⟩ := n
  exact ⟨o, es, ep, k o h1, h2⟩
theorem ns_keepN {h h' : Heap} {a : Addr} {m : Str → Option Value} (k : ∀ o, NotList o → h.get? a = some o → h'.get? a = some o) (n : h.Ns a m) : h'.Ns a m := by
  obtain ⟨o, es, ep, h1, h2, r⟩ := n
  exact ⟨o, es, ep, k o (fun _ _ _ e => by rw [h2] at e; cases e) h1, h2, r⟩
theorem TopOk.keepN {h h' : Heap} (T : TopOk h) (k : KeepN h h') : TopOk h' := by
  have code : ∀ q ∈ fns, q.2.2.1 ≠ 30 ∧ q.2.2.1 ≠ 77 ∧ q.1 ≠ 30 ∧ q.1 ≠ 77 := by decide
  have mem : ∀ (l : List (Addr × Nat × Addr × Value)) (a : Addr) (x : Nat × Addr × Value), l.lookup a = some x → (a, x) ∈ l := by
    intro l
    induction l with
    | nil => intro a x h; cases h
    | cons y l ih =>
      intro a x h
      obtain ⟨b, z⟩ := y
      rw [List.lookup_cons] at h
      cases q : a == b with
      | true => rw [q] at h; cases h; rw [beq_iff_eq.mp q]; exact .head _
      | false => rw [q] at h; exact .tail _ (ih a x h)
  refine ⟨?_, ?_, ?_, ?_, ?_, ?_⟩
  · obtain ⟨mg, n, r⟩ := T.glob
    exact ⟨mg, ns_keepN (fun o q e => k _ o (by decide) (by decide) q e) n, r⟩
  · obtain ⟨mb, n, r⟩ := T.built
    exact ⟨mb, ns_keepN (fun o q e => k _ o (by decide) (by decide) q e) n, r⟩
  · obtain ⟨mc, n, r⟩ := T.lim
    exact ⟨mc, ns_keepN (fun o q e => k _ o (by decide) (by decide) q e) n, r⟩
  · intro a f c dv hl
    obtain ⟨o, pm, doc, h1, h2, h3⟩ := T.fn a f c dv hl
    have q := code _ (mem _ _ _ hl)
    obtain ⟨c', o', vs, t, e1, e2, e3, e4⟩ := h3
    cases e1
    exact ⟨o, pm, doc, k _ _ q.2.2.1 q.2.2.2 (fun _ _ _ e => by rw [h2] at e; cases e) h1, h2, c, o', vs, t, rfl, k _ _ q.1 q.2.1 (fun _ _ _ e => by rw [e3] at e; cases e) e2, e3, e4⟩
  · obtain ⟨o, n, h1, h2, r⟩ := T.dflt
    exact ⟨o, n, k _ _ (by decide) (by decide) (fun _ _ e => by rw [h2] at e; simp at e) h1, h2, r⟩
  · obtain ⟨o, h1, r⟩ := T.miss
    exact ⟨o, k _ _ (by decide) (by decide) (fun _ _ e => by rw [r] at e; simp at e) h1, r⟩
theorem TopOk.keep {h h' : Heap} (T : TopOk h) (k : KeepH h h') : TopOk h' := T.keepN fun b o h1 h2 _ e => k b o h1 h2 e
theorem KeepH.of {h h' : Heap} (k : ∀ b o, h.get? b = some o → h'.get? b = some o) : KeepH h h' := fun b o _ _ e => k b o e
theorem TopOk.keeps {s s' : Shared} (T : TopOk s.heap) (k : Keeps s s') : TopOk s'.heap := by
  obtain ⟨h', tk, rfl, k⟩ := k
  exact T.keep (KeepH.of k)

/-- room: k frames more, twenty units each -/
structure Ok (A : Around) (k : Nat) : Prop where
  hh : A.handled = none
  dp : A.depth + k < 900
  un : A.units + 20 * k < 9000
theorem Ok.less {A : Around} {k j : Nat} (x : Ok A k) (h : j ≤ k) : Ok A j := ⟨x.hh, by have := x.dp; omega, by have := x.un; omega⟩
theorem Ok.deeper {A : Around} {k : Nat} {env : Env} (x : Ok A (k + 1)) : Ok (A.deeper env) k := ⟨x.hh, by have := x.dp; show A.depth + 1 + k < 900; omega, by have := x.un; show A.units + 3 + 20 * k < 9000; omega⟩
theorem Ok.in1 {A : Around} {k : Nat} (x : Ok A (k + 1)) : Ok A.in1 k := ⟨x.hh, by have := x.dp; show A.depth + k < 900; omega, by have := x.un; show A.units + 1 + 20 * k < 9000; omega⟩
theorem Ok.room {A : Around} {k : Nat} (x : Ok A k) : A.depth < recursionLimit := by have := x.dp; show A.depth < 1000; omega
theorem Ok.units {A : Around} {k : Nat} (x : Ok A k) : A.units < cLine := by have := x.un; show A.units < 9900; omega

/-- the post made small: what is left of the program is named -/
theorem gen2 {M : Model} {A : Around} {α : Type} {m : Sem α} {Q : α → Shared → Prop} {E : Value → Shared → Prop} {s : Shared} (h : ∀ (R : α → Shared → Prop) (F : Value → Shared → Prop), (∀ v s', Q v s' → R v s') → wpAny M A m R F s) : wpAny M A m Q E s := h Q E fun _ _ q => q
theorem Keeps.refl (s : Shared) : Keeps s s := ⟨s.heap, s.toks, rfl, fun _ _ e => e⟩
theorem Keeps.trans {s s' s'' : Shared} (a : Keeps s s') (b : Keeps s' s'') : Keeps s s'' := by
  obtain ⟨h, t, rfl, k⟩ := a
  obtain ⟨h', t', rfl, k'⟩ := b
  exact ⟨h', t', rfl, fun b o e => k' b o (k b o e)⟩
theorem Keeps.get {s s' : Shared} (a : Keeps s s') {b : Addr} {o : Obj} (e : s.heap.get? b = some o) : s'.heap.get? b = some o := by
  obtain ⟨h, t, rfl, k⟩ := a; exact k b o e
theorem Keeps.push (s : Shared) (o : Obj) : Keeps s { s with heap := s.heap.push o } := ⟨_, _, rfl, fun _ _ e => Heap.get?_push_of_some _ e⟩
theorem Keeps.tok (s : Shared) (t : Nat) : Keeps s { s with toks := t } := ⟨_, _, rfl, fun _ _ e => e⟩
theorem Keeps.mk {s : Shared} {h' : Heap} {t : Nat} (k : ∀ b o, s.heap.get? b = some o → h'.get? b = some o) : Keeps s { s with heap := h', toks := t } := ⟨_, _, rfl, k⟩

/-- a list of ints -/
def IsInts (h : Heap) (l : Addr) (ns : List Int) : Prop := ∃ vs n, IsL h l vs.toArray n ∧ IntsAre vs ns
theorem IsInts.list {h : Heap} {l : Addr} {ns : List Int} (x : IsInts h l ns) : ∃ vs, h.IsList l vs.toArray ∧ IntsAre vs ns := by
  obtain ⟨vs, n, hl, i⟩ := x
  exact ⟨vs, hl.isList, i⟩
theorem IsInts.of_plain {h : Heap} {l : Addr} {ys : Array Value} {ns : List Int} (x : h.PlainList l ys) (i : IntsAre ys.toList ns) : IsInts h l ns := by
  obtain ⟨n, e⟩ := x
  exact ⟨ys.toList, n, by rw [Array.toArray_toList]; exact e, i⟩
theorem IsInts.new (h : Heap) {vs : List Value} {ns : List Int} (i : IntsAre vs ns) : IsInts (h.push { cls := .type "list", data := .seq vs.toArray }) h.objs.size ns := ⟨vs, 0, IsL.new .., i⟩
theorem IsInts.keep {h h' : Heap} {l : Addr} {ns : List Int} (x : IsInts h l ns) (k : ∀ b o, h.get? b = some o → h'.get? b = some o) : IsInts h' l ns := by
  obtain ⟨vs, n, ho, i⟩ := x
  exact ⟨vs, n, k _ _ ho, i⟩
theorem IsInts.keep1 {h h' : Heap} {l : Addr} {ns : List Int} (x : IsInts h l ns) (k : ∀ o, h.get? l = some o → h'.get? l = some o) : IsInts h' l ns := by
  obtain ⟨vs, n, ho, i⟩ := x
  exact ⟨vs, n, k _ ho, i⟩
theorem IsInts.keeps {s s' : Shared} {l : Addr} {ns : List Int} (x : IsInts s.heap l ns) (k : Keeps s s') : IsInts s'.heap l ns := by
  obtain ⟨h', tk, rfl, k⟩ := k
  exact x.keep k
theorem IsInts.there {h : Heap} {l : Addr} {ns : List Int} (x : IsInts h l ns) : ∃ o, h.get? l = some o := by
  obtain ⟨vs, n, ho, i⟩ := x
  exact ⟨_, ho⟩

section
variable {s₀ s s' : Shared} {L : Addr} {m cm : Str → Option Value} {cs : List (Str × Addr)}
theorem stepC (x : InCallC s₀ L m cs cm s) (k : Keeps s s') : InCallC s₀ L m cs cm s' := by
  obtain ⟨h', tk, rfl, k⟩ := k
  obtain ⟨h, t, rfl⟩ := x.toInCall.same
  exact ⟨⟨⟨h', tk, rfl⟩, ns_keep (fun o e => k _ o e) x.toInCall.ns, fun b o e => k b o (x.toInCall.keep b o e), x.toInCall.fresh⟩, fun n c hc => (x.cell n c hc).keeps k, x.apart, x.above⟩
theorem keptC (x : InCallC s₀ L m cs cm s) : Keeps s₀ s := x.done
theorem topC (x : InCallC s₀ L m cs cm s) (T : TopOk s₀.heap) : TopOk s.heap := T.keeps (keptC x)
end
end Mine
end
section
open PySem PySem.W PySem.Calls PyProof.Rows
set_option maxRecDepth 100000
namespace Mine

/-- the frame of a call of the top's k-th statement -/
def envK (k : Nat) (c a : Addr) (L : Addr) : Env := newEnv (fnScope k) L mainGlobals (cellsFrom (L + 1) (fnScope k).names []) (fnName k ++ ".<locals>.") (some a) (.ref c) none builtinsNs

section
variable {w : World} {A : Around} {s : Shared} {Q : Value → Shared → Prop} {E : Value → Shared → Prop}

theorem enter {n a k c : Nat} {vals : List Value} {binds : List (Str × Value)} (T : TopOk s.heap) (hA : Ok A n) (hf : fns.lookup a = some (k, c, .none))
    (hbind : ∀ pm doc, bindArgs (fdOf k c .none pm doc) ⟨vals, []⟩ = pure binds)
    (hkind : ∀ N : Nat, ∀ x ∈ binds, (fnScope k).names.lookup x.1 = some .local ∨ ((fnScope k).names.lookup x.1 = some .cell ∧ ((cellsFrom N (fnScope k).names []).lookup x.1).isSome = true))
    (hsc : (fnScope k).isCoroutine = false ∧ (fnScope k).isGenerator = false ∧ (fnScope k).kind = .function)
    (h : ∀ s₁, InCallC s s.heap.objs.size (bindL (envK k c a s.heap.objs.size).kindOf binds fun _ => none) (envK k c a s.heap.objs.size).cells (bindC (envK k c a s.heap.objs.size).kindOf binds fun _ => none) s₁ →
      wpAny (MM w) (A.deeper (envK k c a s.heap.objs.size)) (execs (fnBody k) (envK k c a s.heap.objs.size)) (fun f s' => Q (match f with | .ret v => v | _ => .none) s') (fun _ _ => False) s₁) :
    wpAny (MM w) A (call (.ref a) vals) Q E s := by
  obtain ⟨o, pm, doc, ho, hd, hcd⟩ := T.fn a k c .none hf
  refine wpAny_call (codeAny_call_cells (fd := fdOf k c .none pm doc) (body := fnBody k) hA.room ho hd T.lim hcd rfl (hbind pm doc) rfl (hkind _) (fun s₁ x => ?_) hsc.1 hsc.2.1 hsc.2.2)
  exact wpAny_mono (h s₁ x) (fun f s' q => q) (fun _ _ f => f.elim)
end

section
variable {M : Model} {w : World} {A : Around} {s₀ s : Shared} {Q : Value → Shared → Prop} {E : Value → Shared → Prop} {env : Env} {m cm : Str → Option Value}

theorem nameL {n : Str} {pos : Pos} {v : Value} (x : InCallC s₀ env.locals m env.cells cm s) (hv : m n = some v) (h : Q v s) (hk : env.scope.kind = .function := by rfl) (hl : env.kindOf n = some .local := by rfl)
    (hd : (n == ("__debug__" : Str)) = false := by decide) : wpAny M A (eval (.Name n pos) env) Q E s := NameLC x hk hl hv h hd
theorem nameC {n : Str} {pos : Pos} {c : Addr} {v : Value} (x : InCallC s₀ env.locals m env.cells cm s) (hv : cm n = some v) (h : Q v s) (hk : env.scope.kind = .function := by rfl) (hl : env.kindOf n = some .cell := by rfl)
    (hc : env.cells.lookup n = some c := by rfl) (hd : (n == ("__debug__" : Str)) = false := by decide) : wpAny M A (eval (.Name n pos) env) Q E s := NameCC x hk hl hc hv h hd
theorem storeL {n : Str} {v : Value} {Q : Unit → Shared → Prop} (x : InCallC s₀ env.locals m env.cells cm s)
    (h : ∀ s', InCallC s₀ env.locals (fun y => if y = n then some v else m y) env.cells cm s' → (∀ b o, b ≠ env.locals → s.heap.get? b = some o → s'.heap.get? b = some o) → s'.gens = s.gens → Q () s') (hk : env.scope.kind = .function := by rfl) (hl : env.kindOf n = some .local := by rfl) :
    wpAny M A (storeName env n v) Q E s := by
  refine wpAny_storeName_local hl x.toInCall.ns (fun h' hn' hs' => h _ ⟨⟨?_, hn', fun b o e => ?_, x.toInCall.fresh⟩, fun k c hc => ?_, x.apart, x.above⟩ ?_ rfl) (by rw [hk]; rfl)
  · obtain ⟨h₁, tk, rfl⟩ := x.toInCall.same
    exact ⟨h', _, rfl⟩
  · exact hs'.extBut b o (Nat.ne_of_lt (Nat.lt_of_lt_of_le (Heap.lt_size e) x.toInCall.fresh)) (x.toInCall.keep b o e)
  · exact (x.cell k c hc).sameBut hs' (Nat.ne_of_gt (x.above k c (mem_of_lookup hc)))
  · intro b o hb e
    exact hs'.extBut b o hb e
theorem IsInts.locals {s s' : Shared} {L l : Addr} {m : Str → Option Value} {ns : List Int} (x : IsInts s.heap l ns) (n : s.heap.Ns L m) (k : ∀ b o, b ≠ L → s.heap.get? b = some o → s'.heap.get? b = some o) : IsInts s'.heap l ns := by
  refine x.keep1 fun o e => k _ _ ?_ e
  rintro rfl
  obtain ⟨vs, e', ho, i⟩ := x
  obtain ⟨o', es, ep, h1, h2, _⟩ := n
  rw [ho] at h1; cases h1
  cases h2

theorem nameGl {n : Str} {pos : Pos} {v : Value} (T : TopOk s.heap) (hv : globs.lookup n = some v) (h : Q v s) (hk : env.scope.kind = .function := by rfl) (hl : env.kindOf n = some .globalImplicit := by rfl) (hg : env.globals = mainGlobals := by rfl)
    (hd : (n == ("__debug__" : Str)) = false := by decide) : wpAny M A (eval (.Name n pos) env) Q E s := by
  refine wpAny_Name ?_ hd
  rw [loadName_read hk hl]
  obtain ⟨mg, N, e, _⟩ := T.glob
  unfold loadGlobal
  rw [hg]
  refine wpAny_bind (wpAny_nsGet N ?_)
  rw [e n v hv]
  exact wpAny_pure h
theorem nameBu {n : Str} {pos : Pos} {v : Value} (T : TopOk s.heap) (hv : builts.lookup n = some v) (h : Q v s) (hk : env.scope.kind = .function := by rfl) (hl : env.kindOf n = some .globalImplicit := by rfl) (hg : env.globals = mainGlobals := by rfl) (hb : env.builtins = builtinsNs := by rfl)
    (hd : (n == ("__debug__" : Str)) = false := by decide) : wpAny M A (eval (.Name n pos) env) Q E s := by
  refine wpAny_Name ?_ hd
  rw [loadName_read hk hl]
  obtain ⟨mg, N, _, e, _⟩ := T.glob
  obtain ⟨mb, N', e'⟩ := T.built
  unfold loadGlobal
  rw [hg, hb]
  refine wpAny_bind (wpAny_nsGet N ?_)
  rw [e n v hv]
  refine wpAny_bind (wpAny_nsGet N' ?_)
  rw [e' n v hv]
  exact wpAny_pure h

def FnHere (a : Addr) (h : Heap) : Prop := ∃ o fd, h.get? a = some o ∧ o.data = .func fd
theorem fnHere {h : Heap} {a k c : Nat} {dv : Value} (T : TopOk h) (hf : fns.lookup a = some (k, c, dv)) : FnHere a h := by
  obtain ⟨o, pm, doc, ho, hd, _⟩ := T.fn a k c dv hf
  exact ⟨o, _, ho, hd⟩
theorem fnKeeper {a : Addr} (h : Heap) (x : FnHere a h) : ∃ k, (k = Keeper.frame ∨ k = Keeper.machine ∨ k = Keeper.boundFrame) ∧ Looks M h (keeperOf (.ref a)) k := by
  obtain ⟨o, fd, ho, hd⟩ := x
  refine ⟨.frame, .inl rfl, (Looks.ld (part := none) ho).andThen ?_⟩
  rw [hd]
  exact .now

/-- a call, by a name, of a def: the arguments, then the call -/
theorem callFn {nm : Str} {np pos : Pos} {e : Expr} {rest : List Expr} {a : Addr} {k c : Nat} {dv : Value} (T : TopOk s.heap) (hv : globs.lookup nm = some (.ref a))
    (h : wpAny M A (spliced (backTo pos (starEach (e :: rest) env))) (fun vs s₁ => TopOk s₁.heap ∧ wpAny M A (call (.ref a) vs) Q E s₁) E s)
    (hf : fns.lookup a = some (k, c, dv) := by rfl) (hk : env.scope.kind = .function := by rfl) (hl : env.kindOf nm = some .globalImplicit := by rfl) (hg : env.globals = mainGlobals := by rfl)
    (hd : (nm == ("__debug__" : Str)) = false := by decide)
    (he : starEach (e :: rest) env = (false, eval e env) :: starEach rest env := by rfl) (hplain : (backTo pos (starEach rest env)).any (·.1) = false := by rfl) :
    wpAny M A (eval (.Call (.Name nm np) (e :: rest) [] pos) env) Q E s := by
  refine wpAny_Call_NameR (nameGl T hv ?_ hk hl hg hd)
  rw [he] at h ⊢
  refine callWith_of (P := FnHere a) (by show ((false || (backTo pos (starEach rest env)).any (·.1)) || false) = false; rw [hplain]; rfl) fnKeeper (evalArgs_plain (wpAny_mono h (fun vs s₁ q => ⟨fnHere q.1 hf, ?_⟩) fun _ _ e => e))
  exact q.2
theorem arg {e : Expr} {rest : List Expr} {pos : Pos} {Q : List Value → Shared → Prop} (h : wpAny M A (eval e env) (fun v s₁ => wpAny M A (spliced (backTo pos (starEach rest env))) (fun vs s₂ => Q (v :: vs) s₂) E s₁) E s)
    (he : starEach (e :: rest) env = (false, eval e env) :: starEach rest env := by rfl) : wpAny M A (spliced (backTo pos (starEach (e :: rest) env))) Q E s := by
  rw [he]
  exact spliced_cons h
theorem argEnd {pos : Pos} {Q : List Value → Shared → Prop} (h : Q [] s) : wpAny M A (spliced (backTo pos (starEach [] env))) Q E s := spliced_nil h
end

end Mine
end
section
open PySem PySem.W PySem.Calls PyProof.Rows
set_option maxRecDepth 100000
namespace Mine
/-- the kernel of a size: d is taken out as often as it goes -/
def IsKern (d n k : Int) : Prop := 0 < k ∧ k % d ≠ 0 ∧ ∃ e : Nat, n = k * d ^ e

theorem small_div {a b : Int} (h0 : 0 ≤ a) (h1 : a < 10 ^ 6) (h2 : 0 ≤ b) (h3 : b < 10 ^ 6) : Builtin.divisionGoesByPylong a b = false := PyProof.noPylong_small (by omega)

set_option maxHeartbeats 1000000 in
theorem kernel_c {w : World} {A : Around} {s : Shared} {Q : Value → Shared → Prop} {E : Value → Shared → Prop} {n d : Int} {t u : Tok} (T : TopOk s.heap) (hA : Ok A 1) (hn : 0 < n) (hb : n < 10 ^ 6) (hd : d = 2 ∨ d = 3)
    (h : ∀ k t s', Keeps s s' → IsKern d n k → Q (.int k t) s') : wpAny (MM w) A (call (.ref 99) [.int n t, .int d u]) Q E s := by
  refine enter (k := 18) (c := 98) (binds := [("size", .int n t), ("d", .int d u)]) T hA rfl (fun _ _ => rfl) (fun N x hx => ?_) ⟨rfl, rfl, rfl⟩ fun s₁ x => ?_
  · rcases List.mem_cons.mp hx with rfl | hx
    · exact .inl rfl
    · rcases List.mem_cons.mp hx with rfl | hx
      · exact .inl rfl
      · cases hx
  · refine wpAny_execs_cons (wpAny_Assign_Name ?_)
    refine nameL x rfl ?_
    refine storeL x fun s₂ x₂ _ _ => ?_
    refine wpAny_execs_cons (wpAny_While ?_)
    have hd0 : d ≠ 0 := by omega
    refine codeAny_whileLoop (fun j s' => ∃ k tk m, j = k.toNat ∧ 0 < k ∧ k ≤ n ∧ (∃ e : Nat, n = k * d ^ e) ∧ m "kernel" = some (.int k tk) ∧ m "d" = some (.int d u) ∧ InCallC s (envK 18 98 99 s.heap.objs.size).locals m (envK 18 98 99 s.heap.objs.size).cells (bindC (envK 18 98 99 s.heap.objs.size).kindOf [("size", .int n t), ("d", .int d u)] fun _ => none) s') ?_ n.toNat ⟨n, t, _, rfl, hn, Int.le_refl _, ⟨0, by simp⟩, rfl, rfl, x₂⟩
    rintro j s₃ ⟨k, t', m, rfl, hk, hkn, ⟨e, he⟩, mk, md, x₃⟩
    refine wpAny_isTrue_Compare1 (wpAny_BinOp (nameL x₃ mk (nameL x₃ md (mod_int' hd0 (wpAny_Constant_int (eq_int (wpAny_truthy_bool ?_)))))))
    have x₄ := stepC x₃ (Keeps.tok s₃ (s₃.toks + 1 + 1))
    have hm : k.fmod d = k % d := Int.fmod_eq_emod_of_nonneg k (by omega)
    rw [hm]
    by_cases hz : k % d = 0
    · rw [hz]
      show if (0 : Int) == 0 then _ else _
      simp only [beq_self_eq_true, if_true]
      refine wpAny_execs_cons (wpAny_Assign_Name (wpAny_BinOp (nameL x₄ mk (nameL x₄ md (floordiv_int hd0 ?_ (.inl (small_div (by omega) (by omega) (by omega) (by omega))))))))
      have x₅ := stepC x₄ (Keeps.tok _ (s₃.toks + 1 + 1 + 1))
      refine storeL x₅ fun s₆ x₆ _ _ => ?_
      refine wpAny_execs_nil ?_
      have hf : k.fdiv d = k / d := Int.fdiv_eq_ediv_of_nonneg k (by omega)
      have hkd : k = d * (k / d) := by have := Int.mul_ediv_add_emod k d; omega
      have h1 : 0 < k / d ∧ k / d < k := by
        rcases hd with rfl | rfl <;> omega
      refine ⟨_, ?_, k.fdiv d, s₃.toks + 1 + 1, _, rfl, by omega, by omega, ⟨e + 1, ?_⟩, ?_, ?_, x₆⟩
      · omega
      · rw [he, hf]
        have : k * d ^ e = (d * (k / d)) * d ^ e := by rw [← hkd]
        rw [this, Int.pow_succ, Int.mul_comm d, Int.mul_assoc, Int.mul_comm d]
      · rfl
      · exact md
    · have hz' : (k % d == 0) = false := by simpa using hz
      show if (k % d == 0) = true then _ else _
      rw [hz']
      simp only [Bool.false_eq_true, if_false]
      refine wpAny_execs_nil ?_
      refine wpAny_execs_cons (wpAny_Return_some (nameL x₄ mk ?_))
      exact h k t' _ (keptC x₄) ⟨hk, hz, e, he⟩
end Mine
end
section
open PySem PySem.W PySem.Calls PyProof.Rows
set_option maxRecDepth 100000
namespace Mine

/-- what a comprehension's tests do -/
abbrev testsOf (ifs : List Expr) (cenv : Env) : Sem Bool := forIn ifs true fun c r => if r = true then do let ok ← isTrue c cenv (eval c cenv); pure (ForInStep.yield ok) else pure (ForInStep.yield r)

/-- the paired values are ints -/
theorem ints_of_paired {F : Value → Value → Prop} {f : Int → Int} (hF : ∀ v y, F v y → ∃ n t u, v = .int n t ∧ y = .int (f n) u) : ∀ {vs ys : List Value} {ns : List Int}, IntsAre vs ns → Paired F vs ys → IntsAre ys (ns.map f)
  | _, _, _, .nil, .nil => .nil
  | _, _, _, .cons n t h, .cons e r => by
    obtain ⟨n', t', u, e1, e2⟩ := hF _ _ e
    cases e1
    subst e2
    exact .cons _ _ (ints_of_paired hF h r)
theorem ints_filter {p : Value → Bool} {pz : Int → Bool} (hp : ∀ n t, p (.int n t) = pz n) : ∀ {vs : List Value} {ns : List Int}, IntsAre vs ns → IntsAre (vs.filter p) (ns.filter pz)
  | _, _, .nil => .nil
  | _, _, .cons n t h => by
    rw [List.filter_cons, List.filter_cons, hp n t]
    cases pz n with
    | true => exact .cons _ _ (ints_filter hp h)
    | false => exact ints_filter hp h
def numP (pz : Int → Bool) : Value → Bool
  | .int n _ => pz n
  | _ => false

section
variable {w : World} {A : Around} {s : Shared} {Q : Value → Shared → Prop} {E : Value → Shared → Prop} {env : Env}

theorem compList {elt iter : Expr} {x : Str} {px pos : Pos} {ifs : List Expr} {scope : Scope} {cl : List (Str × Addr)} {pz : Int → Bool} {f : Int → Int}
    (hh : A.handled = none)
    (h : wpAny (MM w) A (eval iter env) (fun xv s₁ => ∃ l ns, xv = .ref l ∧ IsInts s₁.heap l ns ∧ ns.length ≤ 1000000 ∧
      (∀ C n t s₂ m₂ E', n ∈ ns → s₂.heap.Ns C m₂ → m₂ x = some (.int n t) → (∀ b o, s₁.heap.get? b = some o → s₂.heap.get? b = some o) → wpAny (MM w) A (testsOf ifs (compEnvC scope cl C env)) (fun ok s₃ => ok = pz n ∧ Keeps s₂ s₃) E' s₂) ∧
      (∀ C n t s₂ m₂ E', n ∈ ns → pz n = true → s₂.heap.Ns C m₂ → m₂ x = some (.int n t) → (∀ b o, s₁.heap.get? b = some o → s₂.heap.get? b = some o) → wpAny (MM w) A (eval elt (compEnvC scope cl C env)) (fun y s₃ => (∃ u, y = .int (f n) u) ∧ Keeps s₂ s₃) E' s₂) ∧
      (∀ D s', Keeps s₁ s' → s₁.heap.get? D = none → IsInts s'.heap D ((ns.filter pz).map f) → Q (.ref D) s')) E s)
    (hclos : closureFor scope env = pure cl) (hcell : ∀ y ∈ scope.names, y.2 ≠ .cell) (hkind : scope.kind = .function)
    (hnames : ∀ y ∈ scope.names, y.2 = .local → scope.names.lookup y.1 = some .local) (hx : scope.names.lookup x = some .local)
    (hs : ∀ x, foldedSetIterable iter env x = pure x := by intro _; rfl) :
    wpAny (MM w) A (eval (.ListComp elt [⟨.Name x px, iter, ifs, 0⟩] scope pos) env) Q E s := by
  refine wpAny_ListComp_free (numP pz) (fun v y => ∃ n t u, v = .int n t ∧ y = .int (f n) u) hclos hcell hkind hnames hx (wpAny_mono h (fun xv s₁ h₁ => ?_) fun _ _ e => e) hs
  obtain ⟨l, ns, rfl, hl₀, hsz, ht, he, hQ⟩ := h₁
  obtain ⟨vs, hl, hi⟩ := hl₀.list
  have hlt : l < s₁.heap.objs.size := by obtain ⟨_, e, _⟩ := hl; exact Heap.lt_size e
  have up : ∀ (s₃ : Shared), (∀ b o, b ∉ [s₁.heap.objs.size] → (s₁.heap.push { cls := .type "list_iterator", data := .fields #[.ref l, .int 0 0] }).get? b = some o → s₃.heap.get? b = some o) → ∀ b o, s₁.heap.get? b = some o → s₃.heap.get? b = some o := by
    intro s₃ hk b o e
    refine hk b o (fun hm => ?_) (Heap.get?_push_of_some _ e)
    rw [List.mem_singleton] at hm
    exact Nat.lt_irrefl _ (hm ▸ Heap.lt_size e)
  refine wpAny_pyIter_list hl ⟨s₁.heap.objs.size, [s₁.heap.objs.size, l], [s₁.heap.objs.size], vs.toArray.size, _, _, rfl, Walks.list hh _ _ (Nat.ne_of_lt hlt) vs.toArray, ?_, ⟨⟨_, Heap.get?_push_size _ rfl, rfl, rfl⟩, hl.push _⟩, ?_, ⟨?_, ?_⟩, ?_⟩
  · rw [List.size_toArray, hi.length]
    exact Nat.le_trans hsz (by decide)
  · intro b hb
    show b < (s₁.heap.push _).objs.size
    rw [Heap.size_push]
    simp only [List.mem_cons, List.not_mem_nil, or_false] at hb
    rcases hb with rfl | rfl
    · exact Nat.lt_succ_self _
    · exact Nat.lt_succ_of_lt hlt
  · intro C i v s₃ m₃ E' _ hP hn hm hk _
    have hP' : vs[i]? = some v := by simpa using hP
    obtain ⟨n, t, rfl, hni⟩ := hi.at i v hP'
    exact ht C n t s₃ m₃ E' (List.mem_of_getElem? hni) hn hm (up s₃ hk)
  · intro C i v s₃ m₃ E' _ hP hp hn hm hk _
    have hP' : vs[i]? = some v := by simpa using hP
    obtain ⟨n, t, rfl, hni⟩ := hi.at i v hP'
    refine wpAny_mono (he C n t s₃ m₃ E' (List.mem_of_getElem? hni) hp hn hm (up s₃ hk)) (fun y s₄ h₄ => ?_) fun _ _ e => e
    obtain ⟨⟨u, rfl⟩, k⟩ := h₄
    exact ⟨⟨n, t, u, rfl, rfl⟩, k⟩
  · intro D h' tk ys vs' hnew _ hplD hlen hP hF hk
    have e : vs' = vs := by simpa using list_of_places hlen hP
    subst e
    refine hQ D _ (Keeps.mk (up { s₁ with heap := h' } hk)) ?_ (IsInts.of_plain hplD (ints_of_paired (fun _ _ q => q) (ints_filter (fun _ _ => rfl) hi) hF))
    cases e : s₁.heap.get? D with
    | none => rfl
    | some o' => rw [show ({ s₁ with heap := s₁.heap.push { cls := .type "list_iterator", data := .fields #[.ref l, .int 0 0] } } : Shared).heap.get? D = some o' from Heap.get?_push_of_some _ e] at hnew; cases hnew

/-- the ints 0 .. n - 1 -/
def upto (n : Nat) : List Int := (List.range n).map fun i : Nat => (i : Int)
theorem upto_get {n i : Nat} (h : i < n) : (upto n)[i]? = some (i : Int) := by simp [upto, h]
theorem mem_upto {n : Nat} {x : Int} (h : x ∈ upto n) : 0 ≤ x ∧ x < n := by
  obtain ⟨i, hi, rfl⟩ := List.mem_map.mp h
  have := List.mem_range.mp hi
  omega
theorem ints_of_places : ∀ (n : Nat) (vs : List Value) (a : Nat), vs.length = n → (∀ j v, vs[j]? = some v → ∃ t, v = Value.int ((a + j : Nat) : Int) t) → IntsAre vs ((List.range n).map fun i : Nat => ((a + i : Nat) : Int))
  | 0, [], _, _, _ => .nil
  | n + 1, v :: vs, a, hl, h => by
    obtain ⟨t, rfl⟩ := h 0 v rfl
    rw [List.range_succ_eq_map, List.map_cons, List.map_map]
    refine .cons _ _ ?_
    have := ints_of_places n vs (a + 1) (Nat.succ.inj hl) fun j v hv => by
      obtain ⟨t, e⟩ := h (j + 1) v (by simpa using hv)
      exact ⟨t, by rw [e]; congr 2; omega⟩
    have e : ((fun i : Nat => ((a + i : Nat) : Int)) ∘ Nat.succ) = fun i : Nat => ((a + 1 + i : Nat) : Int) := by
      funext i; simp only [Function.comp]; congr 1; omega
    rw [e]; exact this

theorem compRange {elt iter : Expr} {x : Str} {px pos : Pos} {ifs : List Expr} {scope : Scope} {cl : List (Str × Addr)} {pz : Int → Bool} {f : Int → Int}
    (hh : A.handled = none)
    (h : wpAny (MM w) A (eval iter env) (fun xv s₁ => ∃ r n t u v, xv = .ref r ∧ IsRange s₁.heap r 0 (n : Nat) 1 t u v ∧ n ≤ 1000000 ∧
      (∀ C (i : Nat) t s₂ m₂ E', i < n → s₂.heap.Ns C m₂ → m₂ x = some (.int i t) → (∀ b o, s₁.heap.get? b = some o → s₂.heap.get? b = some o) → wpAny (MM w) A (testsOf ifs (compEnvC scope cl C env)) (fun ok s₃ => ok = pz i ∧ Keeps s₂ s₃) E' s₂) ∧
      (∀ C (i : Nat) t s₂ m₂ E', i < n → pz i = true → s₂.heap.Ns C m₂ → m₂ x = some (.int i t) → (∀ b o, s₁.heap.get? b = some o → s₂.heap.get? b = some o) → wpAny (MM w) A (eval elt (compEnvC scope cl C env)) (fun y s₃ => (∃ u, y = .int (f i) u) ∧ Keeps s₂ s₃) E' s₂) ∧
      (∀ D s', Keeps s₁ s' → s₁.heap.get? D = none → IsInts s'.heap D (((upto n).filter pz).map f) → Q (.ref D) s')) E s)
    (hclos : closureFor scope env = pure cl) (hcell : ∀ y ∈ scope.names, y.2 ≠ .cell) (hkind : scope.kind = .function)
    (hnames : ∀ y ∈ scope.names, y.2 = .local → scope.names.lookup y.1 = some .local) (hx : scope.names.lookup x = some .local)
    (hs : ∀ x, foldedSetIterable iter env x = pure x := by intro _; rfl) :
    wpAny (MM w) A (eval (.ListComp elt [⟨.Name x px, iter, ifs, 0⟩] scope pos) env) Q E s := by
  refine wpAny_ListComp_free (numP pz) (fun v y => ∃ n t u, v = .int n t ∧ y = .int (f n) u) hclos hcell hkind hnames hx (wpAny_mono h (fun xv s₁ h₁ => ?_) fun _ _ e => e) hs
  obtain ⟨r, n, t, u, v, rfl, hr, hsz, ht, he, hQ⟩ := h₁
  have up : ∀ (s₃ : Shared), (∀ b o, b ∉ [s₁.heap.objs.size] → (s₁.heap.push { cls := .type "range_iterator", data := .fields #[rawInt 0, rawInt (Builtin.Range.rangeSize 0 (n : Nat) 1), rawInt 1] }).get? b = some o → s₃.heap.get? b = some o) → ∀ b o, s₁.heap.get? b = some o → s₃.heap.get? b = some o := by
    intro s₃ hk b o e
    refine hk b o (fun hm => ?_) (Heap.get?_push_of_some _ e)
    rw [List.mem_singleton] at hm
    exact Nat.lt_irrefl _ (hm ▸ Heap.lt_size e)
  have hsize : Builtin.Range.rangeSize 0 (n : Nat) 1 = (n : Int) := by rw [rangeSize_one]; split <;> omega
  have hint : ∀ (i : Nat) (v : Value), (i < n ∧ ∃ t, v = Value.int (0 + (i : Nat) * 1) t) → ∃ t, v = .int (i : Int) t := by
    rintro i v ⟨_, t, e⟩
    exact ⟨t, by rw [e]; congr 1; omega⟩
  refine wpAny_pyIter_range hr (small_one (by omega) (by omega) (by omega) (by omega)) ⟨s₁.heap.objs.size, [s₁.heap.objs.size], [s₁.heap.objs.size], n, _, _, rfl, (Walks.range hh _ 0 1 n).bound, Nat.le_trans hsz (by decide), (by show IsRangeIter _ _ _ _ _; rw [hsize]; simpa using Heap.get?_push_size _ rfl), ?_, ⟨?_, ?_⟩, ?_⟩
  · intro b hb
    show b < (s₁.heap.push _).objs.size
    rw [Heap.size_push]
    simp only [List.mem_cons, List.not_mem_nil, or_false] at hb
    rw [hb]
    exact Nat.lt_succ_self _
  · intro C i v s₃ m₃ E' _ hP hn hm hk _
    obtain ⟨t, rfl⟩ := hint i v hP
    exact ht C i t s₃ m₃ E' hP.1 hn hm (up s₃ hk)
  · intro C i v s₃ m₃ E' _ hP hp hn hm hk _
    obtain ⟨t, rfl⟩ := hint i v hP
    refine wpAny_mono (he C i t s₃ m₃ E' hP.1 hp hn hm (up s₃ hk)) (fun y s₄ h₄ => ?_) fun _ _ e => e
    obtain ⟨⟨u, rfl⟩, k⟩ := h₄
    exact ⟨⟨i, t, u, rfl, rfl⟩, k⟩
  · intro D h' tk ys vs' hnew _ hplD hlen hP hF hk
    have hi : IntsAre vs' (upto n) := by
      have := ints_of_places n vs' 0 hlen fun j v hv => by
        obtain ⟨t, e⟩ := hint j v (hP j v hv)
        exact ⟨t, by rw [e]; congr 2; omega⟩
      simpa [upto] using this
    refine hQ D _ (Keeps.mk (up { s₁ with heap := h' } hk)) ?_ (IsInts.of_plain hplD (ints_of_paired (fun _ _ q => q) (ints_filter (fun _ _ => rfl) hi) hF))
    cases e : s₁.heap.get? D with
    | none => rfl
    | some o' => rw [show ({ s₁ with heap := s₁.heap.push { cls := .type "range_iterator", data := .fields #[rawInt 0, rawInt (Builtin.Range.rangeSize 0 (n : Nat) 1), rawInt 1] } } : Shared).heap.get? D = some o' from Heap.get?_push_of_some _ e] at hnew; cases hnew
end
end Mine
end
section
open PySem PySem.W PySem.Calls PyProof.Rows
set_option maxRecDepth 100000
namespace Mine
section
variable {M : Model} {w : World} {A : Around} {s : Shared} {Q : Value → Shared → Prop} {E : Value → Shared → Prop} {env : Env}
theorem callBu {nm : Str} {np pos : Pos} {e : Expr} {rest : List Expr} {id : String} (T : TopOk s.heap) (hv : builts.lookup nm = some (.builtin id))
    (h : wpAny M A (spliced (backTo pos (starEach (e :: rest) env))) (fun vs s₁ => wpAny M A (call (.builtin id) vs) Q E s₁) E s)
    (hk : env.scope.kind = .function := by rfl) (hl : env.kindOf nm = some .globalImplicit := by rfl) (hg : env.globals = mainGlobals := by rfl) (hb : env.builtins = builtinsNs := by rfl) (hd : (nm == ("__debug__" : Str)) = false := by decide)
    (he : starEach (e :: rest) env = (false, eval e env) :: starEach rest env := by rfl) (hplain : (backTo pos (starEach rest env)).any (·.1) = false := by rfl) :
    wpAny M A (eval (.Call (.Name nm np) (e :: rest) [] pos) env) Q E s := by
  refine wpAny_Call_NameR (nameBu T hv ?_ hk hl hg hb hd)
  rw [he] at h ⊢
  exact Calls.callWith_builtin (by show (false || (backTo pos (starEach rest env)).any (·.1)) = false; rw [hplain]; rfl) (evalArgs_plain h)
theorem callTy {nm : Str} {np pos : Pos} {e : Expr} {rest : List Expr} {id : String} (T : TopOk s.heap) (hv : builts.lookup nm = some (.type id))
    (h : wpAny M A (spliced (backTo pos (starEach (e :: rest) env))) (fun vs s₁ => wpAny M A (call (.type id) vs) Q E s₁) E s)
    (hk : env.scope.kind = .function := by rfl) (hl : env.kindOf nm = some .globalImplicit := by rfl) (hg : env.globals = mainGlobals := by rfl) (hb : env.builtins = builtinsNs := by rfl) (hd : (nm == ("__debug__" : Str)) = false := by decide)
    (he : starEach (e :: rest) env = (false, eval e env) :: starEach rest env := by rfl) (hplain : (backTo pos (starEach rest env)).any (·.1) = false := by rfl) :
    wpAny M A (eval (.Call (.Name nm np) (e :: rest) [] pos) env) Q E s := by
  refine wpAny_Call_NameR (nameBu T hv ?_ hk hl hg hb hd)
  rw [he] at h ⊢
  exact PySem.callWith_type (by show (false || (backTo pos (starEach rest env)).any (·.1)) = false; rw [hplain]; rfl) (evalArgs_plain h)
theorem lenInts {l : Addr} {ns : List Int} (hl : IsInts s.heap l ns) (hn : ns.length ≤ 1000000) (h : ∀ t s', Keeps s s' → Q (.int ns.length t) s') : wpAny (MM w) A (call (.builtin "len") [.ref l]) Q E s := by
  obtain ⟨vs, hl, hi⟩ := hl.list
  have e : vs.toArray.size = ns.length := by rw [List.size_toArray, hi.length]
  refine call_len_list hl (by rw [e]; omega) ?_
  rw [e]
  exact h _ _ (Keeps.tok s _)
/-- a name of the comprehension's own frame -/
theorem compL {scope : Scope} {cl : List (Str × Addr)} {C : Addr} {n : Str} {pos : Pos} {v : Value} {m : Str → Option Value} (hn : s.heap.Ns C m) (hv : m n = some v) (h : Q v s) (hk : (compEnvC scope cl C env).scope.kind = .function := by rfl)
    (hl : (compEnvC scope cl C env).kindOf n = some .local := by rfl) (hd : (n == ("__debug__" : Str)) = false := by decide) : wpAny M A (eval (.Name n pos) (compEnvC scope cl C env)) Q E s :=
  wpAny_Name (wpAny_loadName_local hk hl hn hv h) hd
theorem compC {scope : Scope} {cl : List (Str × Addr)} {C c : Addr} {n : Str} {pos : Pos} {v : Value} (hc : s.heap.IsCell c (some v)) (h : Q v s) (hk : (compEnvC scope cl C env).scope.kind = .function := by rfl)
    (hl : (compEnvC scope cl C env).kindOf n = some .cell := by rfl) (hcl : cl.lookup n = some c := by rfl) (hd : (n == ("__debug__" : Str)) = false := by decide) : wpAny M A (eval (.Name n pos) (compEnvC scope cl C env)) Q E s :=
  wpAny_Name (wpAny_loadName_cell hk hl hcl hc h) hd
end

/-- how often -/
def often (n : Int) (ns : List Int) : Nat := (ns.filter fun x => x == n).length

set_option maxHeartbeats 1000000 in
theorem often_c {w : World} {A : Around} {s : Shared} {Q : Value → Shared → Prop} {E : Value → Shared → Prop} {n : Int} {t : Tok} {l : Addr} {ns : List Int} (T : TopOk s.heap) (hA : Ok A 2) (hl : IsInts s.heap l ns) (hn : ns.length ≤ 1000000)
    (h : ∀ t s', Keeps s s' → Q (.int (often n ns) t) s') : wpAny (MM w) A (call (.ref 87) [.int n t, .ref l]) Q E s := by
  refine enter (k := 16) (c := 86) (binds := [("size", .int n t), ("sizes", .ref l)]) T hA rfl (fun _ _ => rfl) (fun N x hx => ?_) ⟨rfl, rfl, rfl⟩ fun s₁ x => ?_
  · rcases List.mem_cons.mp hx with rfl | hx
    · exact .inr ⟨rfl, rfl⟩
    · rcases List.mem_cons.mp hx with rfl | hx
      · exact .inl rfl
      · cases hx
  · have T₁ := topC x T
    refine wpAny_execs_cons (wpAny_Return_some (callBu T₁ rfl (arg ?_)))
    refine compList (pz := fun x => x == n) (f := id) hA.hh (nameL x rfl ⟨l, ns, rfl, hl.keeps (keptC x), hn, ?_, ?_, ?_⟩) rfl (by decide) rfl (by decide) rfl
    · intro C k t s₂ m₂ E' _ hns hm hk
      refine wpAny_tests_one (wpAny_isTrue_Compare1 (compL hns hm (compC ((x.cell "size" _ rfl).keeps hk) (eq_int (wpAny_truthy_bool ⟨rfl, Keeps.refl _⟩)))))
    · intro C k t s₂ m₂ E' _ _ hns hm hk
      exact compL hns hm ⟨⟨_, rfl⟩, Keeps.refl _⟩
    · intro D s₂ k₂ _ hD
      refine argEnd (lenInts hD ?_ fun t s₃ k₃ => ?_)
      · rw [List.length_map]
        exact Nat.le_trans (List.length_filter_le _ _) hn
      · rw [List.length_map]
        exact h t s₃ (Keeps.trans (keptC x) (Keeps.trans k₂ k₃))
end Mine
end
section
open PySem PySem.W PySem.Calls PyProof.Rows
set_option maxRecDepth 100000
namespace Mine
section
variable {w : World} {A : Around} {s : Shared} {Q : Value → Shared → Prop} {E : Value → Shared → Prop} {env : Env}
theorem subInts {value slice : Expr} {pos : Pos} (h : wpAny (MM w) A (eval value env) (fun o s₁ => wpAny (MM w) A (eval slice env) (fun i s₂ => ∃ l ns k t n, o = .ref l ∧ i = .int k t ∧ IsInts s₂.heap l ns ∧ 0 ≤ k ∧ k < 1000000 ∧ ns[k.toNat]? = some n ∧ ∀ u, Q (.int n u) s₂) E s₁) E s)
    (hs : ∀ o i, subscripted slice false o i = operate [o, i] (getItem o i) := by intro _ _; rfl) : wpAny (MM w) A (eval (.Subscript value slice pos) env) Q E s := by
  refine Subscript_ (wpAny_mono h (fun o s₁ h₁ => wpAny_mono h₁ (fun i s₂ h₂ => ?_) fun _ _ e => e) fun _ _ e => e)
  obtain ⟨l, ns, k, t, n, rfl, rfl, hl₀, h0, h1, hn, hq⟩ := h₂
  obtain ⟨vs, hl, hi⟩ := hl₀.list
  obtain ⟨u, hu⟩ := hi.get k.toNat n hn
  exact tail_any hl.typeIs PySem.slot_list_getitem.lookup (wpAny_getItem_list hl h0 (by omega) (by simpa using hu) (hq u)) (hs _ _)
theorem sliceInts {value : Expr} {lower upper step : Option Expr} {p pos : Pos} {ops : Value → Value → List Value} (hops : ∀ o i, subscripted (.Slice lower upper step p) false o i = operate (ops o i) (getItem o i))
    (h : wpAny (MM w) A (eval value env) (fun o s₁ => wpAny (MM w) A (evalPart lower env) (fun vl s₂ => wpAny (MM w) A (evalPart upper env) (fun vu s₃ => wpAny (MM w) A (evalPart step env) (fun vs s₄ =>
      ∃ l ns lo hi st ns', o = .ref l ∧ IsInts s₄.heap l ns ∧ ns.length ≤ 1000000 ∧ IsPart vl lo ∧ IsPart vu hi ∧ IsPart vs st ∧ st ≠ some 0 ∧ (∀ xs, IntsAre xs ns → IntsAre (slicePick xs.toArray lo hi st).toList ns') ∧
        ∀ D s', Keeps s₄ s' → s₄.heap.get? D = none → IsInts s'.heap D ns' → Q (.ref D) s') E s₃) E s₂) E s₁) E s) :
    wpAny (MM w) A (eval (.Subscript value (.Slice lower upper step p) pos) env) Q E s := by
  refine Subscript_ (wpAny_mono h (fun o s₁ h₁ => wpAny_Slice (wpAny_mono h₁ (fun vl s₂ h₂ => wpAny_mono h₂ (fun vu s₃ h₃ => wpAny_mono h₃ (fun vs s₄ h₄ => ?_) fun _ _ e => e) fun _ _ e => e) fun _ _ e => e)) fun _ _ e => e)
  obtain ⟨l, ns, lo, hi, st, ns', rfl, hl₀, hn, pl, pu, ps, h0, hpick, hq⟩ := h₄
  obtain ⟨xs, hl, hi'⟩ := hl₀.list
  have hl' := hl.push { cls := .type "slice", data := .fields #[vl, vu, vs] }
  refine tail_any hl'.typeIs PySem.slot_list_getitem.lookup (wpAny_getItem_list_slice hl' ⟨_, Heap.get?_push_size _ rfl, rfl, rfl⟩ pl pu ps h0 ?_ ?_) (hops _ _)
  · refine hq _ _ (Keeps.trans (Keeps.push s₄ _) (Keeps.push _ _)) ?_ (IsInts.of_plain ⟨0, Heap.get?_push_size _ rfl⟩ (hpick xs hi'))
    cases e : s₄.heap.get? _ with
    | none => rfl
    | some o' =>
      have h1 := Heap.lt_size e
      rw [Heap.size_push] at h1
      exact absurd (Nat.lt_of_succ_lt h1) (Nat.lt_irrefl _)
  · rw [List.size_toArray, hi'.length]
    exact Nat.le_trans hn (by decide)
theorem pick_upto {ns xs : List _} (k : Nat) (h : IntsAre xs ns) : IntsAre (slicePick xs.toArray none (some (k : Int)) none).toList (ns.take k) := by
  rw [slicePick_upto']
  exact h.take k
theorem pick_from {ns xs : List _} (k : Nat) (h : IntsAre xs ns) : IntsAre (slicePick xs.toArray (some (k : Int)) none none).toList (ns.drop k) := by
  rw [slicePick_from']
  exact h.drop k
theorem rangeInts1 {n : Int} {t : Tok} {Q : Value → Shared → Prop} (h : ∀ r u v s', Keeps s s' → IsRange s'.heap r 0 n 1 u t v → Q (.ref r) s') : wpAny (MM w) A (call (.type "range") [.int n t]) Q E s :=
  call_range_1 (h _ _ _ _ (Keeps.mk fun _ _ e => Heap.get?_push_of_some _ e) (IsRange.new ..))
end

/-- those that come, up to them, more often than among the others -/
def beyond (mine yours : List Int) : List Int := ((upto mine.length).filter fun k => decide (often (mine.getD k.toNat 0) (mine.take (k.toNat + 1)) > often (mine.getD k.toNat 0) yours)).map fun k => mine.getD k.toNat 0

set_option maxHeartbeats 1000000 in
theorem beyond_c {w : World} {A : Around} {s : Shared} {Q : Value → Shared → Prop} {E : Value → Shared → Prop} {l l' : Addr} {ns ns' : List Int} (T : TopOk s.heap) (hA : Ok A 4) (hl : IsInts s.heap l ns) (hl' : IsInts s.heap l' ns') (hn : ns.length ≤ 100000) (hn' : ns'.length ≤ 100000)
    (h : ∀ D s', Keeps s s' → IsInts s'.heap D (beyond ns ns') → Q (.ref D) s') : wpAny (MM w) A (call (.ref 92) [.ref l, .ref l']) Q E s := by
  refine enter (k := 17) (c := 91) (binds := [("mine", .ref l), ("yours", .ref l')]) T hA rfl (fun _ _ => rfl) (fun N x hx => ?_) ⟨rfl, rfl, rfl⟩ fun s₁ x => ?_
  · rcases List.mem_cons.mp hx with rfl | hx
    · exact .inr ⟨rfl, rfl⟩
    · rcases List.mem_cons.mp hx with rfl | hx
      · exact .inr ⟨rfl, rfl⟩
      · cases hx
  · have T₁ := topC x T
    have hA' : Ok (A.deeper (envK 17 91 92 s.heap.objs.size)) 3 := hA.deeper
    refine wpAny_execs_cons (wpAny_Return_some ?_)
    refine compRange (pz := fun k => decide (often (ns.getD k.toNat 0) (ns.take (k.toNat + 1)) > often (ns.getD k.toNat 0) ns')) (f := fun k => ns.getD k.toNat 0) hA'.hh (callTy T₁ rfl (arg (callBu T₁ rfl (arg (nameC x rfl (argEnd (lenInts (hl.keeps (keptC x)) (by omega) fun t s₂ k₂ => argEnd (rangeInts1 fun r u v s₃ k₃ hr => ⟨r, ns.length, u, t, v, rfl, hr, by omega, ?_, ?_, ?_⟩)))))))) rfl (by decide) rfl (by decide) rfl
    · intro C i t' s₄ m₄ E' hi hns hm hk
      have hk1 : ∀ b o, s₁.heap.get? b = some o → s₄.heap.get? b = some o := fun b o e => hk b o (Keeps.get k₃ (Keeps.get k₂ e))
      have T₄ : TopOk s₄.heap := T₁.keep (KeepH.of hk1)
      have L₄ : IsInts s₄.heap l ns := (hl.keeps (keptC x)).keep hk1
      have L₄' : IsInts s₄.heap l' ns' := (hl'.keeps (keptC x)).keep hk1
      have cm := (x.cell "mine" _ rfl).keeps hk1
      have cy := (x.cell "yours" _ rfl).keeps hk1
      have hg : ns[(i : Int).toNat]? = some (ns.getD (i : Int).toNat 0) := by simp [hi]
      refine wpAny_tests_one (wpAny_isTrue_Compare1 ?_)
      refine callFn T₄ rfl (arg (subInts (compC cm (compL hns hm ⟨l, ns, i, t', _, rfl, rfl, L₄, by omega, by omega, hg, fun u => ?_⟩))))
      refine arg (sliceInts (ops := fun o i => [i, o]) (fun _ _ => rfl) (compC cm (wpAny_evalPart_none (wpAny_evalPart_some (wpAny_BinOp (compL hns hm (wpAny_Constant_int (add_int (wpAny_evalPart_none ⟨l, ns, none, _, none, ns.take (i + 1), rfl, L₄, by omega, .none, .int _ _, .none, nofun, fun xs hx => ?_, fun D s₅ k₅ _ hD => ?_⟩)))))))))
      · have := pick_upto (i + 1) hx
        simpa using this
      · have k₄₅ : ∀ b o, s₄.heap.get? b = some o → s₅.heap.get? b = some o := fun b o e => Keeps.get k₅ e
        refine argEnd ⟨T₄.keep (KeepH.of k₄₅), often_c (T₄.keep (KeepH.of k₄₅)) (hA'.less (by omega)) hD (Nat.le_trans (List.length_take_le' ..) (by omega)) fun t₆ s₆ k₆ => ?_⟩
        have k₄₆ : ∀ b o, s₄.heap.get? b = some o → s₆.heap.get? b = some o := fun b o e => Keeps.get k₆ (k₄₅ b o e)
        have hns₆ := ns_keep (fun o e => k₄₆ _ o e) hns
        refine callFn (T₄.keep (KeepH.of k₄₆)) rfl (arg (subInts (compC (cm.keeps k₄₆) (compL hns₆ hm ⟨l, ns, i, t', _, rfl, rfl, L₄.keep k₄₆, by omega, by omega, hg, fun u' => ?_⟩))))
        refine arg (compC (cy.keeps k₄₆) (argEnd ⟨T₄.keep (KeepH.of k₄₆), often_c (T₄.keep (KeepH.of k₄₆)) (hA'.less (by omega)) (L₄'.keep k₄₆) (by omega) fun t₇ s₇ k₇ => ?_⟩))
        refine PyProof.Rows.gt_int (wpAny_truthy_bool ⟨?_, ?_⟩)
        · simp only [gt_iff_lt, decide_eq_decide]
          simp
        · exact Keeps.trans (Keeps.trans (Keeps.tok s₄ _) k₅) (Keeps.trans k₆ k₇)
    · intro C i t' s₄ m₄ E' hi _ hns hm hk
      have hk1 : ∀ b o, s₁.heap.get? b = some o → s₄.heap.get? b = some o := fun b o e => hk b o (Keeps.get k₃ (Keeps.get k₂ e))
      have hg : ns[(i : Int).toNat]? = some (ns.getD (i : Int).toNat 0) := by simp [hi]
      exact subInts (compC ((x.cell "mine" _ rfl).keeps hk1) (compL hns hm ⟨l, ns, i, t', _, rfl, rfl, (hl.keeps (keptC x)).keep hk1, by omega, by omega, hg, fun u => ⟨⟨u, rfl⟩, Keeps.refl _⟩⟩))
    · intro D s₄ k₄ _ hD
      exact h D s₄ (Keeps.trans (keptC x) (Keeps.trans k₂ (Keeps.trans k₃ k₄))) hD
end Mine
end
section
open PySem PySem.W PySem.Calls PyProof.Rows
set_option maxRecDepth 100000
namespace Mine

/-- kept, but what X names; what F names (frames of the stack) up to its slots -/
def KF (F X : List Addr) (h h' : Heap) : Prop := ∀ b o, b ∉ X → h.get? b = some o → ∃ sl, h'.get? b = some { o with slots := sl } ∧ (b ∉ F → sl = o.slots)
theorem KF.of {F X : List Addr} {h h' : Heap} (k : ∀ b o, h.get? b = some o → h'.get? b = some o) : KF F X h h' := fun b o _ e => ⟨o.slots, k b o e, fun _ => rfl⟩
theorem KF.get {F X : List Addr} {h h' : Heap} (k : KF F X h h') {b : Addr} {o : Obj} (hX : b ∉ X) (hF : b ∉ F) (e : h.get? b = some o) : h'.get? b = some o := by
  obtain ⟨sl, e', q⟩ := k b o hX e
  rw [e', q hF]
theorem KF.trans {F X : List Addr} {h h' h'' : Heap} (a : KF F X h h') (b : KF F X h' h'') : KF F X h h'' := by
  intro x o hX e
  obtain ⟨sl, e', q⟩ := a x o hX e
  obtain ⟨sl', e'', q'⟩ := b x _ hX e'
  exact ⟨sl', e'', fun hF => (q' hF).trans (q hF)⟩
theorem KF.mono {F F' X X' : List Addr} {h h' : Heap} (a : KF F X h h') (hF : ∀ b ∈ F, b ∈ F') (hX : ∀ b ∈ X, b ∈ X') : KF F' X' h h' := by
  intro x o q e
  obtain ⟨sl, e', q'⟩ := a x o (fun m => q (hX _ m)) e
  exact ⟨sl, e', fun m => q' fun m' => m (hF _ m')⟩
theorem ns_slots {h h' : Heap} {a : Addr} {m : Str → Option Value} (k : ∀ o, h.get? a = some o → ∃ sl, h'.get? a = some { o with slots := sl }) (n : h.Ns a m) : h'.Ns a m := by
  obtain ⟨o, es, ep, h1, h2⟩ := n
  obtain ⟨sl, e⟩ := k o h1
  exact ⟨_, es, ep, e, h2⟩
theorem TopOk.slots {h h' : Heap} (T : TopOk h) (k : ∀ b o, b ≠ 30 → b ≠ 77 → NotList o → h.get? b = some o → ∃ sl, h'.get? b = some { o with slots := sl }) : TopOk h' := by
  have code : ∀ q ∈ fns, q.2.2.1 ≠ 30 ∧ q.2.2.1 ≠ 77 ∧ q.1 ≠ 30 ∧ q.1 ≠ 77 := by decide
  have mem : ∀ (l : List (Addr × Nat × Addr × Value)) (a : Addr) (x : Nat × Addr × Value), l.lookup a = some x → (a, x) ∈ l := by
    intro l
    induction l with
    | nil => intro a x h; cases h
    | cons y l ih =>
      intro a x h
      obtain ⟨b, z⟩ := y
      rw [List.lookup_cons] at h
      cases q : a == b with
      | true => rw [q] at h; cases h; rw [beq_iff_eq.mp q]; exact .head _
      | false => rw [q] at h; exact .tail _ (ih a x h)
  have nsN : ∀ a m, a ≠ 30 → a ≠ 77 → h.Ns a m → h'.Ns a m := by
    intro a m h1 h2 n
    obtain ⟨o, es, ep, e1, e2, r⟩ := n
    obtain ⟨sl, e⟩ := k a o h1 h2 (fun _ _ _ q => by rw [e2] at q; cases q) e1
    exact ⟨_, es, ep, e, e2, r⟩
  refine ⟨?_, ?_, ?_, ?_, ?_, ?_⟩
  · obtain ⟨mg, n, r⟩ := T.glob
    exact ⟨mg, nsN _ _ (by decide) (by decide) n, r⟩
  · obtain ⟨mb, n, r⟩ := T.built
    exact ⟨mb, nsN _ _ (by decide) (by decide) n, r⟩
  · obtain ⟨mc, n, r⟩ := T.lim
    exact ⟨mc, nsN _ _ (by decide) (by decide) n, r⟩
  · intro a f c dv hl
    obtain ⟨o, pm, doc, h1, h2, h3⟩ := T.fn a f c dv hl
    have q := code _ (mem _ _ _ hl)
    obtain ⟨c', o', vs, t, e1, e2, e3, e4⟩ := h3
    cases e1
    obtain ⟨sl, g1⟩ := k _ _ q.2.2.1 q.2.2.2 (fun _ _ _ e => by rw [h2] at e; cases e) h1
    obtain ⟨sl', g2⟩ := k _ _ q.1 q.2.1 (fun _ _ _ e => by rw [e3] at e; cases e) e2
    exact ⟨_, pm, doc, g1, h2, c, _, vs, t, rfl, g2, e3, e4⟩
  · obtain ⟨o, n, h1, h2, r⟩ := T.dflt
    obtain ⟨sl, g⟩ := k _ _ (by decide) (by decide) (fun _ _ e => by rw [h2] at e; simp at e) h1
    exact ⟨_, n, g, h2, r⟩
  · obtain ⟨o, h1, r⟩ := T.miss
    obtain ⟨sl, g⟩ := k _ _ (by decide) (by decide) (fun _ _ e => by rw [r] at e; simp at e) h1
    exact ⟨_, g, r⟩

/-- the stack's frames, as objects -/
def FrOk (A : Around) (F : List Addr) (h : Heap) : Prop := ∃ l, A.frames = some l ∧ l.filterMap (·.frame) = F ∧ ∀ env ∈ l, env.scope.kind ≠ .module ∧ ∃ L o es n, env.frame = some L ∧ h.get? L = some o ∧ o.data = .dict es n
theorem FrOk.slots {A : Around} {F : List Addr} {h h' : Heap} (x : FrOk A F h) (k : ∀ b o, NotList o → h.get? b = some o → b ∈ F → ∃ sl, h'.get? b = some { o with slots := sl }) : FrOk A F h' := by
  obtain ⟨l, e1, e2, e3⟩ := x
  refine ⟨l, e1, e2, fun env he => ?_⟩
  obtain ⟨hk, L, o, es, n, hf, ho, hd⟩ := e3 env he
  obtain ⟨sl, e⟩ := k L o (fun _ _ _ q => by rw [hd] at q; cases q) ho (by rw [← e2]; exact List.mem_filterMap.mpr ⟨env, he, hf⟩)
  exact ⟨hk, L, _, es, n, hf, e, hd⟩
theorem FrOk.keep {A : Around} {F : List Addr} {h h' : Heap} (x : FrOk A F h) (k : ∀ b o, h.get? b = some o → h'.get? b = some o) : FrOk A F h' := x.slots fun b o _ e _ => ⟨o.slots, k b o e⟩
theorem FrOk.push {A : Around} {F : List Addr} {h : Heap} {env : Env} {L : Addr} {m : Str → Option Value} (x : FrOk A F h) (hk : env.scope.kind ≠ .module) (hf : env.frame = some L) (n : h.Ns L m) : FrOk (A.deeper env) (L :: F) h := by
  obtain ⟨l, e1, e2, e3⟩ := x
  refine ⟨env :: l, by show A.frames.map (env :: ·) = _; rw [e1]; rfl, by rw [List.filterMap_cons, hf]; exact congrArg _ e2, fun env' he => ?_⟩
  rcases List.mem_cons.mp he with rfl | he
  · obtain ⟨o, es, ep, ho, hd, _⟩ := n
    exact ⟨hk, L, o, es, ep, hf, ho, hd⟩
  · exact e3 env' he
theorem FrOk.fun {A : Around} {F : List Addr} {h : Heap} (x : FrOk A F h) : ∃ l, A.frames = some l ∧ l.filterMap (·.frame) = F ∧ h.FunFrames (hideAll h F) l := by
  obtain ⟨l, e1, e2, e3⟩ := x
  refine ⟨l, e1, e2, ?_⟩
  have : ∀ (l' : List Env), (∀ env ∈ l', env ∈ l) → h.FunFrames (hideAll h F) l' := by
    intro l'
    induction l' with
    | nil => intro _; trivial
    | cons env r ih =>
      intro hm
      obtain ⟨hk, L, o, es, n, hf, ho, hd⟩ := e3 env (hm _ (.head _))
      refine ⟨hk, ⟨L, o, hf, hideAll_none _ ?_, ho, fun vs q => by rw [hd] at q; cases q⟩, ih fun e he => hm e (.tail _ he)⟩
      rw [← e2]
      exact List.mem_filterMap.mpr ⟨env, hm _ (.head _), hf⟩
  exact this l fun _ h => h
theorem FrOk.notList {A : Around} {F : List Addr} {h : Heap} (x : FrOk A F h) {l : Addr} {items : Array Value} {n : Nat} (hl : IsL h l items n) : l ∉ F := by
  obtain ⟨fs, e1, e2, e3⟩ := x
  intro hm
  rw [← e2] at hm
  obtain ⟨env, he, hf⟩ := List.mem_filterMap.mp hm
  obtain ⟨hk, L, o, es, n', hf', ho, hd⟩ := e3 env he
  rw [hf] at hf'; cases hf'
  rw [hl] at ho; cases ho
  cases hd

/-- in a call: as InCallC, the frames below up to their slots, X let go -/
structure InF (F X : List Addr) (s₀ : Shared) (L : Addr) (m : Str → Option Value) (cs : List (Str × Addr)) (cm : Str → Option Value) (s : Shared) : Prop where
  same : ∃ h tk, s = { s₀ with heap := h, toks := tk }
  ns : s.heap.Ns L m
  keep : KF F X s₀.heap s.heap
  fresh : s₀.heap.objs.size ≤ L
  cell : ∀ n c, cs.lookup n = some c → s.heap.IsCell c (cm n)
  apart : cs.Pairwise fun x y => x.2 ≠ y.2
  above : ∀ n c, (n, c) ∈ cs → L < c

section
variable {F X : List Addr} {s₀ s s' : Shared} {L : Addr} {m cm : Str → Option Value} {cs : List (Str × Addr)}
theorem InF.of (x : InCallC s₀ L m cs cm s) : InF F X s₀ L m cs cm s := ⟨x.toInCall.same, x.toInCall.ns, KF.of x.toInCall.keep, x.toInCall.fresh, x.cell, x.apart, x.above⟩
theorem InF.step (x : InF F X s₀ L m cs cm s) (k : Keeps s s') : InF F X s₀ L m cs cm s' := by
  obtain ⟨h', tk, rfl, k⟩ := k
  obtain ⟨h, t, rfl⟩ := x.same
  exact ⟨⟨h', tk, rfl⟩, ns_keep (fun o e => k _ o e) x.ns, x.keep.trans (KF.of k), x.fresh, fun n c hc => (x.cell n c hc).keeps k, x.apart, x.above⟩
/-- the frame itself may get slots -/
theorem InF.stepF {X' : List Addr} {h' : Heap} {tk : Nat} (x : InF F X s₀ L m cs cm s) (k : KF (L :: F) X' s.heap h') (hX : ∀ b ∈ X', ∀ o, s₀.heap.get? b = some o → b ∈ X) (hX' : ∀ b ∈ X', ∃ items n, IsL s.heap b items n) :
    InF F X s₀ L m cs cm { s with heap := h', toks := tk } := by
  obtain ⟨h, t, rfl⟩ := x.same
  have noX : ∀ b o, s₀.heap.get? b = some o → b ∉ X → b ∉ X' := fun b o e q q' => q (hX b q' o e)
  refine ⟨⟨h', tk, rfl⟩, ns_slots (fun o e => ?_) x.ns, ?_, x.fresh, fun n c hc => ?_, x.apart, x.above⟩
  · obtain ⟨sl, e', _⟩ := k L o (fun q => by
      obtain ⟨items, n, hl⟩ := hX' _ q
      obtain ⟨o', es, ep, h1, h2, _⟩ := x.ns
      rw [hl] at h1; cases h1; cases h2) e
    exact ⟨sl, e'⟩
  · intro b o q e
    obtain ⟨sl, e', q'⟩ := x.keep b o q e
    obtain ⟨sl', e'', q''⟩ := k b _ (noX b o e q) e'
    refine ⟨sl', e'', fun hF => (q'' fun hm => ?_).trans (q' hF)⟩
    rcases List.mem_cons.mp hm with rfl | hm
    · exact absurd (Heap.lt_size e) (Nat.not_lt.mpr x.fresh)
    · exact hF hm
  · obtain ⟨o, ho, hd⟩ := x.cell n c hc
    obtain ⟨sl, e', _⟩ := k c o (fun q => by
      obtain ⟨items, n', hl⟩ := hX' _ q
      rw [hl] at ho; cases ho; cases hd) ho
    exact ⟨_, e', hd⟩
theorem InF.top (x : InF F X s₀ L m cs cm s) (T : TopOk s₀.heap) (hX : ∀ b ∈ X, b = 30 ∨ b = 77 ∨ ∃ items n, IsL s₀.heap b items n) : TopOk s.heap := by
  refine T.slots fun b o h1 h2 hn e => ?_
  have hq : b ∉ X := by
    intro q
    rcases hX b q with rfl | rfl | ⟨items, n, hl⟩
    · exact h1 rfl
    · exact h2 rfl
    · rw [hl] at e; cases e
      exact hn items n rfl rfl
  obtain ⟨sl, e', _⟩ := x.keep b o hq e
  exact ⟨sl, e'⟩
end

section
variable {M : Model} {A : Around} {F X : List Addr} {s₀ s : Shared} {Q : Value → Shared → Prop} {E : Value → Shared → Prop} {env : Env} {m cm : Str → Option Value}
theorem nameLF {n : Str} {pos : Pos} {v : Value} (x : InF F X s₀ env.locals m env.cells cm s) (hv : m n = some v) (h : Q v s) (hk : env.scope.kind = .function := by rfl) (hl : env.kindOf n = some .local := by rfl)
    (hd : (n == ("__debug__" : Str)) = false := by decide) : wpAny M A (eval (.Name n pos) env) Q E s := wpAny_Name (wpAny_loadName_local hk hl x.ns hv h) hd
theorem nameCF {n : Str} {pos : Pos} {c : Addr} {v : Value} (x : InF F X s₀ env.locals m env.cells cm s) (hv : cm n = some v) (h : Q v s) (hk : env.scope.kind = .function := by rfl) (hl : env.kindOf n = some .cell := by rfl)
    (hc : env.cells.lookup n = some c := by rfl) (hd : (n == ("__debug__" : Str)) = false := by decide) : wpAny M A (eval (.Name n pos) env) Q E s := wpAny_Name (wpAny_loadName_cell hk hl hc (hv ▸ x.cell n c hc) h) hd
theorem storeLF {n : Str} {v : Value} {Q : Unit → Shared → Prop} (x : InF F X s₀ env.locals m env.cells cm s)
    (h : ∀ s', InF F X s₀ env.locals (fun y => if y = n then some v else m y) env.cells cm s' → (∀ b o, b ≠ env.locals → s.heap.get? b = some o → s'.heap.get? b = some o) → (∃ o, s'.heap.get? env.locals = some o) → Q () s') (hk : env.scope.kind = .function := by rfl) (hl : env.kindOf n = some .local := by rfl) :
    wpAny M A (storeName env n v) Q E s := by
  refine wpAny_storeName_local hl x.ns (fun h' hn' hs' => h _ ⟨?_, hn', ?_, x.fresh, fun k c hc => ?_, x.apart, x.above⟩ ?_ ?_) (by rw [hk]; rfl)
  · obtain ⟨h₁, tk, rfl⟩ := x.same
    exact ⟨h', _, rfl⟩
  · intro b o q e
    obtain ⟨sl, e', q'⟩ := x.keep b o q e
    exact ⟨sl, hs'.extBut b _ (Nat.ne_of_lt (Nat.lt_of_lt_of_le (Heap.lt_size e) x.fresh)) e', q'⟩
  · exact (x.cell k c hc).sameBut hs' (Nat.ne_of_gt (x.above k c (mem_of_lookup hc)))
  · intro b o hb e
    exact hs'.extBut b o hb e
  · obtain ⟨o, _, _, e, _⟩ := hn'
    exact ⟨o, e⟩
end
end Mine
end
section
open PySem PySem.W PySem.Calls PyProof.Rows
set_option maxRecDepth 100000
namespace Mine

/-- a state after: what X names let go, what F names up to slots -/
def Ch (F X : List Addr) (s s' : Shared) : Prop := ∃ h' tk, s' = { s with heap := h', toks := tk } ∧ KF F X s.heap h'
theorem Ch.of {F X : List Addr} {s s' : Shared} (k : Keeps s s') : Ch F X s s' := by
  obtain ⟨h', tk, rfl, k⟩ := k
  exact ⟨h', tk, rfl, KF.of k⟩
theorem Ch.trans {F X : List Addr} {s s' s'' : Shared} (a : Ch F X s s') (b : Ch F X s' s'') : Ch F X s s'' := by
  obtain ⟨h', tk, rfl, k⟩ := a
  obtain ⟨h'', tk', rfl, k'⟩ := b
  exact ⟨h'', tk', rfl, k.trans k'⟩
theorem Ch.mono {F F' X X' : List Addr} {s s' : Shared} (a : Ch F X s s') (hF : ∀ b ∈ F, b ∈ F') (hX : ∀ b ∈ X, b ∈ X') : Ch F' X' s s' := by
  obtain ⟨h', tk, rfl, k⟩ := a
  exact ⟨h', tk, rfl, k.mono hF hX⟩
theorem Ch.kf {F X : List Addr} {s s' : Shared} (a : Ch F X s s') : KF F X s.heap s'.heap := by
  obtain ⟨h', tk, rfl, k⟩ := a
  exact k
/-- what is new in s is let go -/
theorem Ch.drop {F X X' : List Addr} {s s' s'' : Shared} (a : Ch F X s s') (b : Ch F X' s' s'') (hX : ∀ b ∈ X', ∀ o, s.heap.get? b = some o → b ∈ X) : Ch F X s s'' := by
  obtain ⟨h', tk, rfl, k⟩ := a
  obtain ⟨h'', tk', rfl, k'⟩ := b
  refine ⟨h'', tk', rfl, fun b o q e => ?_⟩
  obtain ⟨sl, e', q1⟩ := k b o q e
  obtain ⟨sl', e'', q2⟩ := k' b _ (fun m => q (hX b m o e)) e'
  exact ⟨sl', e'', fun hF => (q2 hF).trans (q1 hF)⟩
theorem Ch.get {F X : List Addr} {s s' : Shared} (a : Ch F X s s') {b : Addr} {o : Obj} (hX : b ∉ X) (hF : b ∉ F) (e : s.heap.get? b = some o) : s'.heap.get? b = some o := a.kf.get hX hF e
theorem IsInts.ch {F X : List Addr} {s s' : Shared} {l : Addr} {ns : List Int} (x : IsInts s.heap l ns) (a : Ch F X s s') (hX : l ∉ X) (hF : l ∉ F) : IsInts s'.heap l ns := x.keep1 fun _ e => a.get hX hF e
theorem FrOk.notInts {A : Around} {F : List Addr} {h : Heap} (x : FrOk A F h) {l : Addr} {ns : List Int} (hl : IsInts h l ns) : l ∉ F := by
  obtain ⟨vs, n, e, _⟩ := hl
  exact x.notList e
theorem Ch.top {F X : List Addr} {s s' : Shared} (a : Ch F X s s') (T : TopOk s.heap) (hX : ∀ b ∈ X, b = 30 ∨ b = 77 ∨ s.heap.get? b = none ∨ ∃ ns, IsInts s.heap b ns) : TopOk s'.heap := by
  refine T.slots fun b o h1 h2 hn e => ?_
  have hq : b ∉ X := by
    intro q
    rcases hX b q with rfl | rfl | h | ⟨ns, vs, n, hl, _⟩
    · exact h1 rfl
    · exact h2 rfl
    · rw [h] at e; cases e
    · rw [hl] at e; cases e
      exact hn _ n rfl rfl
  obtain ⟨sl, e', _⟩ := a.kf b o hq e
  exact ⟨sl, e'⟩
theorem FrOk.ch {A : Around} {F X F' : List Addr} {s s' : Shared} (x : FrOk A F s.heap) (a : Ch F' X s s') (hX : ∀ b ∈ X, b ∉ F) : FrOk A F s'.heap := by
  refine x.slots fun b o _ e m => ?_
  obtain ⟨sl, e', _⟩ := a.kf b o (fun q => hX b q m) e
  exact ⟨sl, e'⟩
theorem InF.ch {F X X' : List Addr} {s₀ s s' : Shared} {L : Addr} {m cm : Str → Option Value} {cs : List (Str × Addr)} (x : InF F X s₀ L m cs cm s) (a : Ch (L :: F) X' s s') (hX : ∀ b ∈ X', ∀ o, s₀.heap.get? b = some o → b ∈ X) (hX' : ∀ b ∈ X', ∃ ns, IsInts s.heap b ns) :
    InF F X s₀ L m cs cm s' := by
  obtain ⟨h', tk, rfl, k⟩ := a
  exact x.stepF k hX fun b hb => by
    obtain ⟨ns, vs, n, hl, _⟩ := hX' b hb
    exact ⟨_, n, hl⟩
theorem InF.toCh {F X : List Addr} {s₀ s : Shared} {L : Addr} {m cm : Str → Option Value} {cs : List (Str × Addr)} (x : InF F X s₀ L m cs cm s) : Ch F X s₀ s := by
  obtain ⟨h, tk, e⟩ := x.same
  exact ⟨h, tk, e, by have := x.keep; rw [e] at this; exact this⟩

section
variable {w : World} {A : Around} {s : Shared} {Q : Value → Shared → Prop} {E : Value → Shared → Prop} {env : Env} {l : Addr}
theorem upd_ch {F : List Addr} (f : Obj → Obj) (t : Nat) : Ch F [l] s { s with heap := s.heap.update l f, toks := t } := by
  refine ⟨_, t, rfl, fun b o q e => ⟨o.slots, ?_, fun _ => rfl⟩⟩
  have hb : l ≠ b := fun h => q (h ▸ .head _)
  rw [Heap.get?_update_other _ f hb]
  exact e
theorem upd_ints {n : Nat} {items : Array Value} {ns : List Int} (hl : IsL s.heap l items n) (f : Array Value → Array Value) (hf : IntsAre (f items).toList ns) : IsInts (s.heap.update l (Obj.mapSeq f)) l ns := by
  obtain h := hl.update f
  exact ⟨(f items).toList, _, by rw [Array.toArray_toList]; exact h, hf⟩
theorem popInts {o : Expr} {apos pos : Pos} {ns : List Int} {x : Int}
    (h : wpAny (MM w) A (eval o env) (fun ov s₁ => ov = .ref l ∧ IsInts s₁.heap l (ns ++ [x]) ∧ ns.length < 100000 ∧ ∀ t s', Ch [] [l] s₁ s' → IsInts s'.heap l ns → Q (.int x t) s') E s)
    (hbase : attributeBase o "pop" env (eval o env) = eval o env := by rfl) (hline : (apos.endLine == pos.line) = true := by rfl) : wpAny (MM w) A (eval (.Call (.Attribute o "pop" apos) [] [] pos) env) Q E s := by
  refine wpAny_Call_method0_late hbase hline (wpAny_mono h (fun ov s₁ q => ?_) fun _ _ e => e)
  obtain ⟨rfl, hl, hn, hq⟩ := q
  obtain ⟨vs, n, e, hi⟩ := hl
  have hlen : vs.length = ns.length + 1 := by rw [hi.length]; simp
  obtain ⟨t, ht⟩ := hi.get ns.length x (by simp)
  refine ⟨"list", _, F.plainAttrs_list, F.slot_list_pop, F.type_list_pop, ⟨_, e, rfl⟩, fun a h => ?_, ?_⟩
  · cases h
    exact ⟨_, e, rfl⟩
  · refine P.pop_list e (y := .int x t) (by simpa [hlen] using ht) ?_ ?_
    · refine hq t _ (upd_ch _ _) (upd_ints e _ ?_)
      have := hi.take ns.length
      simp only [List.take_append_of_le_length (Nat.le_refl _), List.take_length] at this
      simpa [hlen, List.eraseIdx_eq_take_drop_succ, List.drop_eq_nil_of_le (show vs.length ≤ ns.length + 1 by omega)] using this
    · simp only [List.size_toArray, hlen]
      exact Nat.le_trans hn (by decide)
end
end Mine
end
section
open PySem PySem.W PySem.Calls PyProof.Rows PySem.MeetsSeq
set_option maxRecDepth 100000
namespace Mine
section
variable {w : World} {A : Around} {s : Shared} {Q : Value → Shared → Prop} {E : Value → Shared → Prop} {env : Env} {l : Addr}
theorem appendInts {o e : Expr} {apos pos : Pos}
    (h : wpAny (MM w) A (eval o env) (fun ov s₁ => ∃ l, ov = .ref l ∧ (∃ ns, IsInts s₁.heap l ns) ∧ wpAny (MM w) A (eval e env) (fun v s₂ => ∃ ns x t, v = .int x t ∧ IsInts s₂.heap l ns ∧ ns.length < 100000 ∧ ∀ s', Ch [] [l] s₂ s' → IsInts s'.heap l (ns ++ [x]) → Q .none s') E s₁) E s)
    (hbase : attributeBase o "append" env (eval o env) = eval o env := by rfl) (hline : (apos.endLine == pos.line) = true := by rfl) (htrees : backTo pos (starEach [e] env) = [(false, eval e env)] := by rfl) :
    wpAny (MM w) A (eval (.Call (.Attribute o "append" apos) [e] [] pos) env) Q E s := by
  refine wpAny_Call_method1_late hbase hline htrees (wpAny_mono h (fun ov s₁ q => ?_) fun _ _ e => e)
  obtain ⟨l, rfl, ⟨ns, vs, n, hl, hi⟩, hq⟩ := q
  refine ⟨"list", _, F.plainAttrs_list, F.slot_list_append, F.type_list_append, ⟨_, hl, rfl⟩, fun a h => ?_, ?_⟩
  · cases h
    exact ⟨_, hl, rfl⟩
  · refine P.append_list (wpAny_mono hq (fun v s₂ q => ?_) fun _ _ e => e)
    obtain ⟨ns, x, t, rfl, ⟨vs, n, hl, hi⟩, hn, hq⟩ := q
    refine ⟨_, n, ?_, hl, hq _ (upd_ch _ _) (upd_ints hl _ ?_)⟩
    · rw [List.size_toArray, hi.length]
      exact Nat.le_trans (Nat.le_of_lt hn) (by decide)
    · have := hi.append (IntsAre.cons (n := x) (t := t) .nil)
      simpa using this
theorem ints_erase {x : Int} : ∀ {vs : List Value} {ns : List Int}, IntsAre vs ns → x ∈ ns → ∃ j, ∃ hj : j < vs.length, numOf vs[j] = x ∧ (∀ m (hm : m < vs.length), m < j → numOf vs[m] ≠ x) ∧ IntsAre (vs.eraseIdx j) (ns.erase x)
  | _, _, .nil, h => nomatch h
  | _, _, .cons (n := n) (t := t) (vs := vs) (ns := ns) r, h => by
    by_cases hx : n = x
    · subst hx
      exact ⟨0, by simp, rfl, fun m _ q => absurd q (Nat.not_lt_zero _), by simpa using r⟩
    · have h' : x ∈ ns := by
        rcases List.mem_cons.mp h with q | q
        · exact absurd q.symm hx
        · exact q
      obtain ⟨j, hj, e1, e2, e3⟩ := ints_erase r h'
      refine ⟨j + 1, by simpa using hj, by simpa using e1, fun m hm q => ?_, ?_⟩
      · cases m with
        | zero => exact hx
        | succ m => simpa using e2 m (by simpa using hm) (by omega)
      · rw [List.erase_cons_tail (by simpa using hx)]
        exact IntsAre.cons _ _ e3
theorem removeInts {o e : Expr} {apos pos : Pos}
    (h : wpAny (MM w) A (eval o env) (fun ov s₁ => ∃ l, ov = .ref l ∧ (∃ ns, IsInts s₁.heap l ns) ∧ wpAny (MM w) A (eval e env) (fun v s₂ => ∃ ns x t, v = .int x t ∧ IsInts s₂.heap l ns ∧ ns.length < 100000 ∧ A.handled = none ∧ (x ∈ ns → ∀ s', Ch [] [l] s₂ s' → IsInts s'.heap l (ns.erase x) → Q .none s') ∧
      (x ∉ ns → ∀ h' tk e, Heap.NewExc s₂.heap h' e "ValueError" → E (.ref e) { s₂ with heap := h', toks := tk })) E s₁) E s)
    (hbase : attributeBase o "remove" env (eval o env) = eval o env := by rfl) (hline : (apos.endLine == pos.line) = true := by rfl) (htrees : backTo pos (starEach [e] env) = [(false, eval e env)] := by rfl) :
    wpAny (MM w) A (eval (.Call (.Attribute o "remove" apos) [e] [] pos) env) Q E s := by
  refine wpAny_Call_method1_late hbase hline htrees (wpAny_mono h (fun ov s₁ q => ?_) fun _ _ e => e)
  obtain ⟨l, rfl, ⟨ns, vs, n, hl, hi⟩, hq⟩ := q
  refine ⟨"list", _, F.plainAttrs_list, F.slot_list_remove, F.type_list_remove, ⟨_, hl, rfl⟩, fun a h => ?_, ?_⟩
  · cases h
    exact ⟨_, hl, rfl⟩
  · refine seqMethod1_meets F.slot_list_remove F.entry_list_remove (wpAny_mono hq (fun v s₂ q => ?_) fun _ _ e => e)
    obtain ⟨ns, x, t, rfl, ⟨vs, n, hl, hi⟩, hn, hh, hyes, hno⟩ := q
    have hE : ∀ y, y ∈ vs.toArray → EqGives y (.int x t) (numOf y == x) := by
      intro y hy
      obtain ⟨k, u, rfl⟩ := hi.all y (by simpa using hy)
      exact EqGives.int k x u t
    have hsz : vs.toArray.size ≤ sizeLine := by
      rw [List.size_toArray, hi.length]
      exact Nat.le_trans (Nat.le_of_lt hn) (by decide)
    refine ⟨⟨_, hl, rfl⟩, F.args_list_remove_2 _ _, ?_⟩
    by_cases hx : x ∈ ns
    · obtain ⟨j, hj, e1, e2, e3⟩ := ints_erase hi hx
      refine ⟨_, list_remove l vs.toArray n (.int x t) (fun y => numOf y == x) hE j (by simpa using hj) (by simpa using e1) (fun m hm q => by simpa using e2 m (by simpa using hm) q) hsz, hl, ?_⟩
      exact hyes hx _ (upd_ch _ _) (upd_ints hl _ (by simpa [hj] using e3))
    · refine ⟨_, list_remove_none l vs.toArray n (.int x t) (fun y => numOf y == x) hE (fun m hm => ?_), hl, hh, fun h' tk e hx' => hno hx h' tk e hx'⟩
      simp only [List.getElem_toArray, beq_eq_false_iff_ne, ne_eq]
      intro q
      apply hx
      have := hi.nums
      rw [← this, ← q]
      exact List.mem_map.mpr ⟨_, List.getElem_mem _, rfl⟩
/-- a ValueError just raised in the frame L is caught -/
theorem catchVE {F : List Addr} {h : Heap} {e : Addr} {L : Addr} {p pos : Pos} {b₀ : Stmt} {suite : List Stmt} {Q : Flow → Shared → Prop} (T : TopOk h) (fr : FrOk A (L :: F) h) (hfr : ∃ outer, A.frames = some (env :: outer)) (hf : env.frame = some L) (hx : Heap.NewExc h s.heap e "ValueError")
    (k : ∀ h' E', KF (L :: F) [] h h' → wpAny (MM w) (A.mark (some (.ref e))) (execs (b₀ :: suite) env) Q E' { s with heap := h' })
    (hk : env.scope.kind = .function := by rfl) (hl : env.kindOf "ValueError" = some .globalImplicit := by rfl) (hg : env.globals = mainGlobals := by rfl) (hb : env.builtins = builtinsNs := by rfl) :
    wpAny (MM w) A (noteFrame (.ref e) env) (fun _ s₂ => wpAny (MM w) A (setFlight (.ref e) none) (fun _ s₃ => wpAny (MM w) A (handleBy (.ref e) env [.ExceptHandler (some (.Name "ValueError" p)) none (b₀ :: suite) pos]) Q E s₃) E s₂) E s := by
  obtain ⟨outer, hfr⟩ := hfr
  obtain ⟨ob, tp, he, hcls, hd⟩ := hx.there
  obtain ⟨l, hl1, hl2, hff⟩ := fr.fun
  rw [hfr] at hl1; cases hl1
  have hbase : (hideAll h (L :: F)).StaysIn s.heap := fun b o eb => hx.keeps b o (of_hideAll _ eb)
  have hff' : s.heap.FunFrames (hideAll h (L :: F)) (env :: outer) := hff.of_keeps fun b o eb _ => ⟨o, hx.keeps b o eb, rfl⟩
  have hen : (hideAll h (L :: F)).get? e = none := by
    cases q : (hideAll h (L :: F)).get? e with
    | none => rfl
    | some o => have := of_hideAll _ q; rw [hx.new] at this; cases this
  -- what is kept: all of h but the frames exactly, the frames up to slots
  have hkf : ∀ h', (hideAll h (L :: F)).StaysIn h' → s.heap.UpToSlots h' → KF (L :: F) [] h h' := by
    intro h' k1 k2 b o _ eb
    by_cases hm : b ∈ L :: F
    · have : ∃ es n, o.data = .dict es n := by
        obtain ⟨l', e1, e2, e3⟩ := fr
        rw [← e2] at hm
        obtain ⟨env', hm', hf'⟩ := List.mem_filterMap.mp hm
        obtain ⟨_, L', o', es, n, g1, g2, g3⟩ := e3 env' hm'
        rw [hf'] at g1; cases g1
        rw [eb] at g2; cases g2
        exact ⟨es, n, g3⟩
      obtain ⟨es, n, hdd⟩ := this
      obtain ⟨sl, e'⟩ := k2 b o (hx.keeps b o eb) fun vs q => by rw [hdd] at q; cases q
      exact ⟨sl, e', fun q => absurd hm q⟩
    · exact ⟨o.slots, k1 b o (hideAll_get _ eb hm), fun _ => rfl⟩
  unfold noteFrame
  simp only [hf]
  refine wpAny_bind (wpAny_field he hd (x := .none) rfl ?_)
  rw [if_neg (by decide)]
  refine wpAny_entryW (a0 := tp) hfr hff' hf he hbase hen hd (by show 1 < 6; decide) rfl fun h₁ hN => ?_
  obtain ⟨n1, n2, n3, n4⟩ := hN
  refine wpAny_setFlight_noneW n1 n2 n3 fun h₂ m1 m2 m3 m4 => ?_
  have u₂ : s.heap.UpToSlots h₂ := Heap.UpToSlots.trans n4 fun b o eb hnf => ⟨o.slots, m4 b o eb hnf⟩
  have T₂ : TopOk h₂ := T.slots fun b o _ _ _ eb => by
    obtain ⟨sl, e', _⟩ := hkf h₂ m1 u₂ b o (List.not_mem_nil) eb
    exact ⟨sl, e'⟩
  refine wpAny_handleBy_builtin PySem.F.isExc_ValueError PySem.F.notTuple_ValueError (X := "ValueError") (b := true) (by rw [isSubtype_type]; kernel_rfl) ?_
  refine nameBu T₂ (v := .type "ValueError") rfl ⟨rfl, ?_, ?_⟩ hk hl hg hb
  · obtain ⟨o', e1, e2⟩ := Heap.TracedAtW.there m3.at
    exact ⟨o', e1, e2.trans hcls⟩
  · rw [if_pos rfl]
    refine wpAny_setFlight_noneW m1 m2 m3.at fun h₃ p1 p2 p3 p4 => ?_
    exact k h₃ _ (hkf h₃ p1 (Heap.UpToSlots.trans u₂ fun b o eb hnf => ⟨o.slots, p4 b o eb hnf⟩))
end
end Mine
end
section
open PySem PySem.W PySem.Calls PyProof.Rows
set_option maxRecDepth 100000
namespace Mine
/-- unorderable_list_difference, from the last expected on -/
def uldGo : List Int → List Int → List Int → List Int × List Int
  | [], M, A => (M, A)
  | x :: r, M, A => if x ∈ A then uldGo r M (A.erase x) else uldGo r (M ++ [x]) A

theorem one {P : Addr → Prop} {l : Addr} (h : P l) : ∀ b ∈ [l], P b := fun _ hb => List.mem_singleton.mp hb ▸ h
theorem two_le {a b : Value} : [a, b].length ≤ sizeLine := by show 2 ≤ _; decide
theorem FrOk.store {A : Around} {F : List Addr} {h h' : Heap} {L : Addr} {m : Str → Option Value} (x : FrOk A F h) (n : h'.Ns L m) (k : ∀ b o, b ≠ L → h.get? b = some o → h'.get? b = some o) : FrOk A F h' := by
  obtain ⟨l, e1, e2, e3⟩ := x
  refine ⟨l, e1, e2, fun env he => ?_⟩
  obtain ⟨hk, L', o, es, n', hf, ho, hd⟩ := e3 env he
  by_cases hb : L' = L
  · subst hb
    obtain ⟨o', es', ep', h1, h2, _⟩ := n
    exact ⟨hk, L', o', es', ep', hf, h1, h2⟩
  · exact ⟨hk, L', o, es, n', hf, k L' o hb ho, hd⟩

set_option maxHeartbeats 1000000 in
theorem uld_c {w : World} {A : Around} {s : Shared} {Q : Value → Shared → Prop} {E : Value → Shared → Prop} {e a : Addr} {ns ms : List Int} {F : List Addr} (T : TopOk s.heap) (hA : Ok A 1) (fr : FrOk A F s.heap) (he : IsInts s.heap e ns) (ha : IsInts s.heap a ms) (hea : e ≠ a)
    (hn : ns.length ≤ 1000) (hm : ms.length ≤ 1000)
    (h : ∀ t ml s', Ch F [e, a] s s' → s'.heap.IsTuple t #[.ref ml, .ref a] → s.heap.get? ml = none → IsInts s'.heap ml (uldGo ns.reverse [] ms).1 → IsInts s'.heap a (uldGo ns.reverse [] ms).2 → Q (.ref t) s') :
    wpAny (MM w) A (call (.ref 21) [.ref e, .ref a]) Q E s := by
  refine enter (k := 1) (c := 20) (binds := [("expected", .ref e), ("actual", .ref a)]) T hA rfl (fun _ _ => rfl) (fun N x hx => ?_) ⟨rfl, rfl, rfl⟩ fun s₁ x => ?_
  · rcases List.mem_cons.mp hx with rfl | hx
    · exact .inl rfl
    · rcases List.mem_cons.mp hx with rfl | hx
      · exact .inl rfl
      · cases hx
  · have hA' : Ok (A.deeper (envK 1 20 21 s.heap.objs.size)) 0 := hA.deeper
    have fr₁ : FrOk (A.deeper (envK 1 20 21 s.heap.objs.size)) (s.heap.objs.size :: F) s₁.heap := (fr.keep fun b o e => Keeps.get (keptC x) e).push nofun rfl x.toInCall.ns
    have hfr : ∃ outer, (A.deeper (envK 1 20 21 s.heap.objs.size)).frames = some (envK 1 20 21 s.heap.objs.size :: outer) := by
      obtain ⟨l, e1, _⟩ := fr
      exact ⟨l, by show A.frames.map _ = _; rw [e1]; rfl⟩
    have he₁ := he.keeps (keptC x)
    have ha₁ := ha.keeps (keptC x)
    have y : InF F [e, a] s (envK 1 20 21 s.heap.objs.size).locals _ (envK 1 20 21 s.heap.objs.size).cells _ s₁ := InF.of x
    refine wpAny_execs_cons (wpAny_Assign_Name ?_)
    refine wpAny_List_spliced (argEnd ⟨by decide, ?_⟩)
    have hnew := Heap.get?_push_size s₁.heap (o := { cls := .type "list", data := .seq ([] : List Value).toArray }) rfl
    have k₂ := Keeps.push s₁ { cls := .type "list", data := .seq ([] : List Value).toArray }
    have hml : s.heap.get? s₁.heap.objs.size = none := by
      cases q : s.heap.get? s₁.heap.objs.size with
      | none => rfl
      | some o => exact absurd (Heap.lt_size (Keeps.get (keptC x) q)) (Nat.lt_irrefl _)
    have ml1 : IsInts (s₁.heap.push { cls := .type "list", data := .seq ([] : List Value).toArray }) s₁.heap.objs.size [] := IsInts.new _ .nil
    have he₂ := he₁.keeps k₂
    have ha₂ := ha₁.keeps k₂
    have fr₂ := fr₁.keep fun b o e => Keeps.get k₂ e
    have y₂ := y.step k₂
    generalize hs₂ : ({ s₁ with heap := s₁.heap.push { cls := .type "list", data := .seq ([] : List Value).toArray } } : Shared) = s₂ at *
    have ml2 : IsInts s₂.heap s₁.heap.objs.size [] := by rw [← hs₂]; exact ml1
    have hme : s₁.heap.objs.size ≠ e := fun q => by
      obtain ⟨o, ho⟩ := he.there
      rw [← q, hml] at ho; cases ho
    have hma : s₁.heap.objs.size ≠ a := fun q => by
      obtain ⟨o, ho⟩ := ha.there
      rw [← q, hml] at ho; cases ho
    generalize s₁.heap.objs.size = ml at *
    refine storeLF y₂ fun s₃ y₃ k₃ _ => ?_
    have fr₃ := fr₂.store y₃.ns k₃
    have he₃ := he₂.locals y₂.ns k₃
    have ha₃ := ha₂.locals y₂.ns k₃
    have ml3 := ml2.locals y₂.ns k₃
    refine wpAny_execs_cons (wpAny_While ?_)
    obtain ⟨Inv, hInv⟩ : ∃ Inv : Nat → Shared → Prop, ∀ j s', Inv j s' ↔ ∃ E' M A' m, j = E'.length ∧ m "expected" = some (.ref e) ∧ m "actual" = some (.ref a) ∧ m "missing" = some (.ref ml) ∧ InF F [e, a] s (envK 1 20 21 s.heap.objs.size).locals m (envK 1 20 21 s.heap.objs.size).cells (bindC (envK 1 20 21 s.heap.objs.size).kindOf [("expected", .ref e), ("actual", .ref a)] fun _ => none) s' ∧
      FrOk (A.deeper (envK 1 20 21 s.heap.objs.size)) (s.heap.objs.size :: F) s'.heap ∧ IsInts s'.heap e E' ∧ IsInts s'.heap ml M ∧ IsInts s'.heap a A' ∧ E'.length + M.length ≤ ns.length ∧ A'.length ≤ ms.length ∧ uldGo E'.reverse M A' = uldGo ns.reverse [] ms := ⟨_, fun _ _ => Iff.rfl⟩
    refine codeAny_whileLoop Inv ?_ ns.length ((hInv _ _).mpr ⟨ns, [], ms, _, rfl, rfl, rfl, rfl, y₃, fr₃, he₃, ml3, ha₃, by simp, Nat.le_refl _, rfl⟩)
    clear y₃ fr₃ he₃ ml3 ha₃ ml2 he₂ ha₂ fr₂ y₂ k₃
    intro j s₄ hi₄
    obtain ⟨E', M, A', m, rfl, me, ma, mm, y₄, fr₄, he₄, ml4, ha₄, hl1, hl2, hgo⟩ := (hInv _ _).mp hi₄
    clear hi₄
    have tk : ∀ (s : Shared) t, Keeps s { s with toks := t } := fun s t => Keeps.tok s t
    obtain ⟨vs, hvs, hi⟩ := he₄.list
    refine wpAny_isTrue_value (nameLF y₄ me (wpAny_truthy_list hvs (by have := hi.length; simp only [List.size_toArray]; omega) ?_))
    have y₅ := y₄.step (tk s₄ (s₄.toks + 1 + 1))
    have T₅ : TopOk s₄.heap := y₄.toCh.top T fun b hb => by
      rcases List.mem_cons.mp hb with rfl | hb
      · exact .inr (.inr (.inr ⟨_, he⟩))
      · rcases List.mem_cons.mp hb with rfl | hb
        · exact .inr (.inr (.inr ⟨_, ha⟩))
        · cases hb
    rcases List.eq_nil_or_concat E' with rfl | ⟨E₁, z, rfl⟩
    · cases hi
      show if false = true then _ else _
      rw [if_neg (by decide)]
      refine wpAny_execs_nil ?_
      refine wpAny_execs_cons (wpAny_Return_some (wpAny_Tuple_spliced (arg (nameLF y₅ mm (arg (nameLF y₅ ma (argEnd ⟨two_le, ?_⟩)))))))
      have k₆ : Keeps { s₄ with toks := s₄.toks + 1 + 1 } _ := Keeps.push _ { cls := .type "tuple", data := .seq [Value.ref ml, .ref a].toArray }
      have hgo' : (M, A') = uldGo ns.reverse [] ms := hgo
      refine h _ ml _ (y₅.step k₆).toCh ⟨_, Heap.get?_push_size _ rfl, rfl, 0, rfl⟩ hml ?_ ?_
      · rw [← hgo']
        exact ml4.keeps k₆
      · rw [← hgo']
        exact ha₄.keeps k₆
    · rw [List.concat_eq_append] at *
      have hne : (!vs.toArray.isEmpty) = true := by
        have := hi.length
        cases vs with
        | nil => simp at this
        | cons _ _ => rfl
      rw [hne, if_pos rfl]
      refine gen2 fun R₁ F₁ hR₁ => ?_
      have len : (E₁ ++ [z]).length = E₁.length + 1 := by simp
      refine wpAny_execs_cons (wpAny_Assign_Name (popInts (nameLF y₅ me ⟨rfl, he₄, by omega, fun tz s₆ c₆ he₆ => ?_⟩)))
      have e_s : ∀ b ∈ [e], ∀ o, s.heap.get? b = some o → b ∈ [e, a] := fun b hb _ _ => by rw [List.mem_singleton.mp hb]; exact .head _
      have a_s : ∀ b ∈ [a], ∀ o, s.heap.get? b = some o → b ∈ [e, a] := fun b hb _ _ => by rw [List.mem_singleton.mp hb]; exact .tail _ (.head _)
      have m_s : ∀ b ∈ [ml], ∀ o, s.heap.get? b = some o → b ∈ [e, a] := fun b hb o q => by rw [List.mem_singleton.mp hb, hml] at q; cases q
      have y₆ := y₅.ch (c₆.mono (by simp) (fun _ h => h)) e_s (one ⟨_, he₄⟩)
      have fr₆ := fr₄.ch (s := { s₄ with toks := s₄.toks + 1 + 1 }) c₆ (one (P := fun b => b ∉ _) (fr₄.notInts he₄))
      have ml6 : IsInts s₆.heap ml M := IsInts.ch (s := { s₄ with toks := s₄.toks + 1 + 1 }) ml4 c₆ (by simpa using hme) (by simp)
      have ha₆ : IsInts s₆.heap a A' := IsInts.ch (s := { s₄ with toks := s₄.toks + 1 + 1 }) ha₄ c₆ (by simpa using Ne.symm hea) (by simp)
      refine storeLF y₆ fun s₇ y₇ k₇ _ => ?_
      have fr₇ := fr₆.store y₇.ns k₇
      have he₇ := he₆.locals y₆.ns k₇
      have ha₇ := ha₆.locals y₆.ns k₇
      have ml7 := ml6.locals y₆.ns k₇
      have T₇ : TopOk s₇.heap := y₇.toCh.top T fun b hb => by
        rcases List.mem_cons.mp hb with rfl | hb
        · exact .inr (.inr (.inr ⟨_, he⟩))
        · rcases List.mem_cons.mp hb with rfl | hb
          · exact .inr (.inr (.inr ⟨_, ha⟩))
          · cases hb
      refine wpAny_execs_cons (wpAny_Try_except ?_)
      refine wpAny_execs_cons (wpAny_Expr (removeInts (nameLF y₇ (ma) ⟨a, rfl, ⟨_, ha₇⟩, nameLF y₇ rfl ⟨A', z, tz, rfl, ha₇, by omega, hA'.hh, fun hz s₈ c₈ ha₈ => ?_, fun hz h' tk' ex hx => ?_⟩⟩)))
      · refine wpAny_execs_nil (wpAny_execs_nil (wpAny_execs_nil ?_))
        have y₈ := y₇.ch (c₈.mono (by simp) (fun _ h => h)) a_s (one ⟨_, ha₇⟩)
        refine hR₁ _ _ ⟨_, by simp, (hInv _ _).mpr ⟨E₁, M, A'.erase z, (fun y => if y = "item" then some (Value.int z tz) else m y), rfl, me, ma, mm, y₈, ?_, ?_, ?_, ha₈, by omega, ?_, ?_⟩⟩
        · exact fr₇.ch c₈ (one (P := fun b => b ∉ _) (fr₇.notInts ha₇))
        · exact he₇.ch c₈ (by simpa using hea) (by simp)
        · exact ml7.ch c₈ (by simpa using hma) (by simp)
        · exact Nat.le_trans (List.length_erase_le) hl2
        · rw [← hgo, List.reverse_append]
          show _ = uldGo (z :: E₁.reverse) M A'
          rw [uldGo, if_pos hz]
      · refine catchVE T₇ fr₇ hfr rfl hx fun h₉ E₉ kf => ?_
        have c₉ : Ch (s.heap.objs.size :: F) [] s₇ { s₇ with heap := h₉, toks := tk' } := ⟨_, _, rfl, kf⟩
        have y₉ := y₇.ch c₉ (by simp) (by simp)
        have fr₉ := fr₇.ch c₉ (by simp)
        have he₉ := he₇.ch c₉ (by simp) (fr₇.notInts he₇)
        have ha₉ := ha₇.ch c₉ (by simp) (fr₇.notInts ha₇)
        have ml9 := ml7.ch c₉ (by simp) (fr₇.notInts ml7)
        refine wpAny_execs_cons (wpAny_Expr (appendInts (nameLF y₉ (mm) ⟨ml, rfl, ⟨_, ml9⟩, nameLF y₉ rfl ⟨M, z, tz, rfl, ml9, by omega, fun s₁₀ c₁₀ ml10 => ?_⟩⟩)))
        refine wpAny_execs_nil (wpAny_execs_nil ?_)
        have y₁₀ := y₉.ch (c₁₀.mono (by simp) (fun _ h => h)) m_s (one ⟨_, ml9⟩)
        refine hR₁ _ _ ⟨_, by simp, (hInv _ _).mpr ⟨E₁, M ++ [z], A', (fun y => if y = "item" then some (Value.int z tz) else m y), rfl, me, ma, mm, y₁₀, ?_, ?_, ml10, ?_, by simp; omega, hl2, ?_⟩⟩
        · exact fr₉.ch c₁₀ (one (P := fun b => b ∉ _) (fr₉.notInts ml9))
        · exact he₉.ch c₁₀ (by simpa using Ne.symm hme) (by simp)
        · exact ha₉.ch c₁₀ (by simpa using Ne.symm hma) (by simp)
        · rw [← hgo, List.reverse_append]
          show _ = uldGo (z :: E₁.reverse) M A'
          rw [uldGo, if_neg hz]
end Mine
end
section
open PySem PySem.W PySem.Calls PyProof.Rows PySem.MeetsSeq
set_option maxRecDepth 100000
namespace Mine
theorem not_old {s : Shared} {h : Heap} (hk : ∀ b o, s.heap.get? b = some o → h.get? b = some o) {D : Addr} (hD : h.objs.size ≤ D) : s.heap.get? D = none := by
  cases q : s.heap.get? D with
  | none => rfl
  | some o => exact absurd (Heap.lt_size (hk _ _ q)) (Nat.not_lt.mpr hD)
section
variable {w : World} {A : Around} {s : Shared} {Q : Value → Shared → Prop} {E : Value → Shared → Prop} {env : Env} {l : Addr}
theorem listInts {ns : List Int} (hl : IsInts s.heap l ns) (hn : ns.length ≤ 100000) (h : ∀ D s', Keeps s s' → s.heap.get? D = none → IsInts s'.heap D ns → Q (.ref D) s') : wpAny (MM w) A (call (.type "list") [.ref l]) Q E s := by
  obtain ⟨vs, n, e, hi⟩ := hl
  refine call_list_seq l (T := "list") (.inl rfl) e rfl rfl (fun h' c' k q => h _ _ (Keeps.mk k) (not_old (fun _ _ e => e) (Nat.le_refl _)) ⟨vs, c', q, hi⟩) ?_
  rw [List.size_toArray, hi.length]
  exact Nat.le_trans hn (by decide)
theorem ints_rep {vs : List Value} {ns : List Int} (hi : IntsAre vs ns) : ∀ k, IntsAre (List.replicate k vs).flatten (List.replicate k ns).flatten
  | 0 => .nil
  | k + 1 => by
    rw [List.replicate_succ, List.replicate_succ, List.flatten_cons, List.flatten_cons]
    exact hi.append (ints_rep hi k)
theorem fold_app (xs : List (Array Value)) : ∀ a : Array Value, (xs.foldl (fun x1 x2 => x1 ++ x2) a).toList = a.toList ++ (xs.map (·.toList)).flatten := by
  induction xs with
  | nil => intro a; simp
  | cons y xs ih =>
    intro a
    rw [List.foldl_cons, ih]
    simp
theorem mulInts {ns : List Int} {x : Int} {u : Tok} (hl : IsInts s.heap l ns) (hn : ns.length ≤ 1000) (hx : x ≤ 1000) (hx' : -1000 ≤ x) (h : ∀ D s', Keeps s s' → s.heap.get? D = none → IsInts s'.heap D (List.replicate x.toNat ns).flatten → Q (.ref D) s') : wpAny (MM w) A (binaryOp .Mult (.ref l) (.int x u)) Q E s := by
  obtain ⟨vs, n, e, hi⟩ := hl
  have hsz : vs.toArray.size * x.toNat ≤ 2 ^ 24 := by
    rw [List.size_toArray, hi.length]
    exact Nat.le_trans (Nat.mul_le_mul hn (show x.toNat ≤ 1000 by omega)) (by decide)
  refine wpAny_binaryOp_repeat_ref (T := "list") (U := "int") (by decide) ⟨_, e, rfl⟩ (fun s' => typeIs_int s' x u) noFill_list_mul F.fills_int_mul F.slot_int_rmul repeat_list F.slot_int_index.lookup
    (call_meets F.slot_int_rmul (typeIs_int s x u) F.entry_int_rmul (F.args_int_rmul_2 _ _) (int___rmul___int_list x u l vs.toArray n)
      ⟨e, rfl, ⟨_, e, rfl⟩, call_meets F.slot_list_mul ⟨_, e, rfl⟩ F.entry_list_mul (F.args_list_mul_2 _ _)
        (AutoListH.list___mul___list_int_3 l vs.toArray n x u (by simp [Builtin.List.listFitsIndex]; omega) (by omega) (by simp [Builtin.List.listTooLong, sizeLine]; simp at hsz; omega))
        ⟨e, h _ _ (Keeps.push _ _) (not_old (fun _ _ e => e) (Nat.le_refl _)) ?_⟩⟩)
  refine IsInts.of_plain ⟨0, Heap.get?_push_size _ rfl⟩ ?_
  rw [fold_app]
  have := ints_rep hi x.toNat
  by_cases hz : vs = []
  · subst hz
    cases hi
    simp
    have h0 : ∀ k, (List.replicate k ([] : List Int)).flatten = [] := fun k => by simp
    exact .nil
  · have : vs.toArray.isEmpty = false := by simpa using hz
    simpa [this] using ints_rep hi x.toNat
theorem addInts {b : Addr} {ns ms : List Int} (hl : IsInts s.heap l ns) (hb : IsInts s.heap b ms) (hn : ns.length ≤ 10000) (hm : ms.length ≤ 10000) (h : ∀ D s', Keeps s s' → s.heap.get? D = none → IsInts s'.heap D (ns ++ ms) → Q (.ref D) s') : wpAny (MM w) A (binaryOp .Add (.ref l) (.ref b)) Q E s := by
  obtain ⟨vs, n, e, hi⟩ := hl
  obtain ⟨vs', n', e', hi'⟩ := hb
  refine P.add_list e e' (h _ _ (Keeps.push _ _) (not_old (fun _ _ e => e) (Nat.le_refl _)) (IsInts.of_plain ⟨0, Heap.get?_push_size _ rfl⟩ (by simpa using hi.append hi'))) ?_
  rw [List.size_toArray, List.size_toArray, hi.length, hi'.length]
  exact Nat.le_trans (Nat.add_le_add hn hm) (by decide)
theorem eqAll {vs vs' : List Value} {ns ms : List Int} (hi : IntsAre vs ns) (hi' : IntsAre vs' ms) (hl : ns.length = ms.length) : (List.range vs.toArray.size).all (fun j => numOf (vs.getD j .none) == numOf (vs'.getD j .none)) = (ns == ms) := by
  have h1 := hi.nums
  have h2 := hi'.nums
  rw [Bool.eq_iff_iff, List.all_eq_true, beq_iff_eq]
  have l1 := hi.length
  have l2 := hi'.length
  constructor
  · intro h
    rw [← h1, ← h2]
    refine List.ext_getElem (by simp; omega) fun j g1 g2 => ?_
    have := h j (by simpa using g1)
    simp only [List.length_map] at g1 g2
    simpa [List.getD, g1, g2] using this
  · rintro rfl j hj
    have g1 : j < vs.length := by simpa using hj
    have g2 : j < vs'.length := by omega
    have : vs.map numOf = vs'.map numOf := h1.trans h2.symm
    have := congrArg (fun l => l[j]?) this
    simpa [List.getD, g1, g2] using this
theorem rcNe {a b : Value} {k : Bool} (h : SeqAt.RcNeAt A s a b k) (hq : Q (.bool k) s) : wpAny (MM w) A (compareOp .NotEq a b) Q E s := h P w E Q hq
theorem neInts {b : Addr} {ns ms : List Int} (hl : IsInts s.heap l ns) (hb : IsInts s.heap b ms) (hu : A.units < cLine) (h : Q (.bool (ns != ms)) s) : wpAny (MM w) A (compareOp .NotEq (.ref l) (.ref b)) Q E s := by
  obtain ⟨vs, n, e, hi⟩ := hl
  obtain ⟨vs', n', e', hi'⟩ := hb
  by_cases hs : ns.length = ms.length
  · refine rcNe (SeqAt.RcNeAt.lists e.isList e'.isList (by simp [hi.length, hi'.length, hs]) hu (e := fun j => numOf (vs.getD j .none) == numOf (vs'.getD j .none)) fun j h1 h2 => ?_) (by rw [eqAll hi hi' hs]; exact h)
    simp only [List.size_toArray] at h1 h2
    obtain ⟨a, t, ea⟩ := hi.all _ (List.getElem_mem h1)
    obtain ⟨c, u, ec⟩ := hi'.all _ (List.getElem_mem h2)
    simp only [List.getElem_toArray, List.getD, List.getElem?_eq_getElem h1, List.getElem?_eq_getElem h2, Option.getD_some, ea, ec]
    exact SeqAt.EqAt.int_int a t c u
  · refine rcNe (SeqAt.RcNeAt.lists_lengths e.isList e'.isList (by simp [hi.length, hi'.length, hs]) hu) ?_
    have : (ns != ms) = true := by
      rw [bne_iff_ne]
      rintro rfl
      exact hs rfl
    rwa [this] at h
end
end Mine
end
section
open PySem PySem.W PySem.Calls PyProof.Rows
set_option maxRecDepth 100000
namespace Mine
/-- what _law_laid gives: the size laid into the bag -/
def laid (d : Nat) : Nat → List Int → Int → List Int
  | 0, bag, size => bag ++ [size]
  | n + 1, bag, size => if (uldGo (List.replicate (d - 1) size) [] bag).1 = [] then laid d n (uldGo (List.replicate (d - 1) size) [] bag).2 (size * d) else bag ++ [size]
theorem uldGo_len : ∀ (r M B : List Int), (uldGo r M B).1 = [] → M = [] ∧ (uldGo r M B).2.length + r.length = B.length
  | [], M, B, h => ⟨h, by simp [uldGo]⟩
  | x :: r, M, B, h => by
    rw [uldGo] at h ⊢
    by_cases hx : x ∈ B
    · rw [if_pos hx] at h ⊢
      obtain ⟨h1, h2⟩ := uldGo_len r M _ h
      refine ⟨h1, ?_⟩
      rw [List.length_erase_of_mem hx] at h2
      have : 0 < B.length := List.length_pos_of_mem hx
      simp only [List.length_cons]
      omega
    · rw [if_neg hx] at h ⊢
      have := (uldGo_len r _ _ h).1
      simp at this

def LaidC (w : World) (d : Nat) (u : Tok) (n : Nat) : Prop := ∀ {A : Around} {s : Shared} {Q : Value → Shared → Prop} {E : Value → Shared → Prop} {l : Addr} {bag : List Int} {size : Int} {t : Tok} {F : List Addr} (_ : TopOk s.heap) (_ : Ok A (n + 2)) (_ : FrOk A F s.heap) (_ : IsInts s.heap l bag)
    (_ : bag.length ≤ n) (_ : bag.length ≤ 100)
    (_ : ∀ D s', Ch F [] s s' → s.heap.get? D = none → IsInts s'.heap D (laid d n bag size) → Q (.ref D) s'),
    wpAny (MM w) A (call (.ref 75) [.ref l, .int size t, .int d u]) Q E s
theorem Ch.refl {F X : List Addr} (s : Shared) : Ch F X s s := Ch.of (Keeps.refl s)
theorem Keeps.ext {s : Shared} {h' : Heap} (e : Heap.ExtBut s.heap.objs.size s.heap h') : Keeps s { s with heap := h' } := ⟨h', s.toks, rfl, fun b o q => e b o (Nat.ne_of_lt (Heap.lt_size q)) q⟩
theorem isTuple_keep {s s' : Shared} {t : Addr} {items : Array Value} (x : s.heap.IsTuple t items) (k : Keeps s s') : s'.heap.IsTuple t items := by
  obtain ⟨o, e, r⟩ := x
  exact ⟨o, Keeps.get k e, r⟩
/-- a pair of names out of a tuple -/
theorem assign2 {w : World} {A : Around} {s : Shared} {E : Value → Shared → Prop} {env : Env} {n1 n2 : Str} {p1 p2 pos : Pos} {k} {t : Addr} {a b : Value} {Q : Unit → Shared → Prop} (hh : A.handled = none) (ht : s.heap.IsTuple t #[a, b])
    (h : ∀ s', Keeps s s' → wpAny (MM w) A (storeName env n1 a) (fun _ s₁ => wpAny (MM w) A (storeName env n2 b) Q E s₁) E s') :
    wpAny (MM w) A (assignAll (.ref t) ((assignEach [.Tuple [.Name n1 p1, .Name n2 p2] k pos] env).map (·.2))) Q E s := by
  show wpAny (MM w) A (assignAll (.ref t) [assign (.Tuple [.Name n1 p1, .Name n2 p2] k pos) env]) Q E s
  refine wpAny_assign_Tuple hh ht rfl rfl fun h' he => ?_
  exact assignInOrder_cons (wpAny_assign_Name (wpAny_mono (h _ (Keeps.ext he)) (fun _ s₁ q => assignInOrder_cons (wpAny_assign_Name (wpAny_mono q (fun _ _ q => assignInOrder_nil q) fun _ _ q => q))) fun _ _ q => q))
theorem none_old {s s' : Shared} (k : Keeps s s') {D : Addr} (h : s'.heap.get? D = none) : s.heap.get? D = none := by
  cases q : s.heap.get? D with
  | none => rfl
  | some o => rw [Keeps.get k q] at h; cases h
theorem none_ch {F X : List Addr} {s s' : Shared} (c : Ch F X s s') {D : Addr} (h : s'.heap.get? D = none) (hX : D ∉ X) : s.heap.get? D = none := by
  cases q : s.heap.get? D with
  | none => rfl
  | some o =>
    obtain ⟨sl, e, _⟩ := c.kf D o hX q
    rw [e] at h; cases h
theorem two {P : Addr → Prop} {a b : Addr} (h : P a) (h' : P b) : ∀ x ∈ [a, b], P x := fun x hx => by
  rcases List.mem_cons.mp hx with rfl | hx
  · exact h
  · exact one h' x hx
theorem ne_old {s : Shared} {a b : Addr} {ns : List Int} (h : IsInts s.heap a ns) (h' : s.heap.get? b = none) : a ≠ b := by
  rintro rfl
  obtain ⟨o, e⟩ := h.there
  rw [h'] at e; cases e

set_option maxHeartbeats 1000000 in
theorem laid_core {w : World} {d : Nat} {u : Tok} (hd : d = 2 ∨ d = 3) (n : Nat) (rec : ∀ m, n = m + 1 → LaidC w d u m) : LaidC w d u n := by
  intro A s Q E l bag size t F T hA fr hl hn hn' h
  refine enter (k := 14) (c := 74) (binds := [("bag", .ref l), ("size", .int size t), ("d", .int d u)]) T hA rfl (fun _ _ => rfl) (fun N x hx => ?_) ⟨rfl, rfl, rfl⟩ fun s₁ x => ?_
  · rcases List.mem_cons.mp hx with rfl | hx
    · exact .inl rfl
    · rcases List.mem_cons.mp hx with rfl | hx
      · exact .inl rfl
      · rcases List.mem_cons.mp hx with rfl | hx
        · exact .inl rfl
        · cases hx
  · have hA' : Ok (A.deeper (envK 14 74 75 s.heap.objs.size)) (n + 1) := hA.deeper
    have T₁ := topC x T
    have fr₁ : FrOk (A.deeper (envK 14 74 75 s.heap.objs.size)) (s.heap.objs.size :: F) s₁.heap := (fr.keep fun b o e => Keeps.get (keptC x) e).push nofun rfl x.toInCall.ns
    have y : InF F [] s (envK 14 74 75 s.heap.objs.size).locals _ (envK 14 74 75 s.heap.objs.size).cells _ s₁ := InF.of x
    have hl₁ := hl.keeps (keptC x)
    refine wpAny_execs_cons (wpAny_Assign_stores (callFn T₁ rfl (arg (wpAny_BinOp (wpAny_List_spliced (arg (nameLF y rfl (argEnd ⟨by show 1 ≤ _; decide, ?_⟩))))))) rfl rfl)
    have k₂ := Keeps.push s₁ { cls := .type "list", data := .seq [Value.int size t].toArray }
    have hD₂ : IsInts (s₁.heap.push { cls := .type "list", data := .seq [Value.int size t].toArray }) s₁.heap.objs.size [size] := IsInts.new _ (.cons _ _ .nil)
    generalize hs₂ : ({ s₁ with heap := s₁.heap.push { cls := .type "list", data := .seq [Value.int size t].toArray } } : Shared) = s₂ at *
    have hD₂' : IsInts s₂.heap s₁.heap.objs.size [size] := by rw [← hs₂]; exact hD₂
    have y₂ := y.step k₂
    refine wpAny_BinOp (nameLF y₂ rfl (wpAny_Constant_int (sub_int ?_)))
    have k₃ := Keeps.tok s₂ (s₂.toks + 1 + 1)
    refine mulInts (hD₂'.keeps k₃) (by simp) (by omega) (by omega) fun e s₄ k₄ he0 he => ?_
    have k₁₄ := Keeps.trans k₂ (Keeps.trans k₃ k₄)
    have y₄ := y.step k₁₄
    refine arg (callTy (T₁.keeps k₁₄) rfl (arg (nameLF y₄ rfl (argEnd (listInts (hl₁.keeps k₁₄) (by omega) fun a s₅ k₅ ha0 ha => ?_)))))
    have k₁₅ := Keeps.trans k₁₄ k₅
    have T₅ := T₁.keeps k₁₅
    have he₅ := he.keeps k₅
    have hea : e ≠ a := fun q => by
      obtain ⟨o, ho⟩ := he.there
      rw [q, ha0] at ho; cases ho
    have fr₅ := fr₁.keep fun b o e => Keeps.get k₁₅ e
    have hns : (List.replicate ((d : Int) - 1).toNat [size]).flatten = List.replicate (d - 1) size := by
      rw [show ((d : Int) - 1).toNat = d - 1 by omega]
      simp
    rw [hns] at he₅
    refine argEnd ⟨T₅, uld_c T₅ (hA'.less (by omega)) fr₅ he₅ ha hea (by simp; omega) (by omega) fun tp ml s₆ c₆ htp hml hi1 hi2 => ?_⟩
    rw [List.reverse_replicate] at hi1 hi2
    have e_s : s.heap.get? e = none := none_old (Keeps.trans (keptC x) (Keeps.trans k₂ k₃)) he0
    have a_s : s.heap.get? a = none := none_old (Keeps.trans (keptC x) k₁₄) ha0
    have y₆ := (y.step k₁₅).ch c₆ (two (P := fun b => ∀ o, s.heap.get? b = some o → b ∈ []) (fun o q => by rw [e_s] at q; cases q) fun o q => by rw [a_s] at q; cases q) (two (P := fun b => ∃ ns, IsInts s₅.heap b ns) ⟨_, he₅⟩ ⟨_, ha⟩)
    have fr₆ := fr₅.ch c₆ (two (P := fun b => b ∉ _) (fr₅.notInts he₅) (fr₅.notInts ha))
    have T₆ : TopOk s₆.heap := y₆.toCh.top T nofun
    have hl₆ : IsInts s₆.heap l bag := (hl₁.keeps k₁₅).ch c₆ (by simp only [List.mem_cons, List.not_mem_nil, or_false, not_or]; exact ⟨ne_old hl e_s, ne_old hl a_s⟩) (fr₅.notInts (hl₁.keeps k₁₅))
    refine assign2 hA'.hh htp fun s₇ k₇ => ?_
    refine storeLF (y₆.step k₇) fun s₈ y₈ k₈ _ => ?_
    refine storeLF y₈ fun s₉ y₉ k₉ _ => ?_
    have fr₉ := ((fr₆.keep fun b o e => Keeps.get k₇ e).store y₈.ns k₈).store y₉.ns k₉
    have T₉ : TopOk s₉.heap := y₉.toCh.top T nofun
    have hl₉ := ((hl₆.keeps k₇).locals (y₆.step k₇).ns k₈).locals y₈.ns k₉
    have ml9 := ((hi1.keeps k₇).locals (y₆.step k₇).ns k₈).locals y₈.ns k₉
    have ha₉ := ((hi2.keeps k₇).locals (y₆.step k₇).ns k₈).locals y₈.ns k₉
    refine wpAny_execs_cons (wpAny_If (wpAny_isTrue_Compare1 (nameLF y₉ rfl (wpAny_List_spliced (argEnd ⟨by decide, ?_⟩)))))
    have k₁₀ := Keeps.push s₉ { cls := .type "list", data := .seq ([] : List Value).toArray }
    refine neInts (ml9.keeps k₁₀) (IsInts.new _ .nil) hA'.units (wpAny_truthy_bool ?_)
    have y₁₀ := y₉.step k₁₀
    have fr₁₀ := fr₉.keep fun b o e => Keeps.get k₁₀ e
    have T₁₀ := T₉.keeps k₁₀
    have hl₁₀ := hl₉.keeps k₁₀
    have ha₁₀ := ha₉.keeps k₁₀
    generalize ({ s₉ with heap := s₉.heap.push { cls := .type "list", data := .seq ([] : List Value).toArray } } : Shared) = s₁₀ at *
    by_cases hz : (uldGo (List.replicate (d - 1) size) [] bag).1 = []
    · obtain ⟨_, hlen⟩ := uldGo_len _ _ _ hz
      rw [List.length_replicate] at hlen
      obtain ⟨m, rfl⟩ : ∃ m, n = m + 1 := ⟨n - 1, by omega⟩
      rw [hz]
      show if false = true then _ else _
      rw [if_neg (by decide)]
      refine wpAny_execs_nil (wpAny_execs_cons (wpAny_Return_some (callFn T₁₀ rfl (arg (nameLF y₁₀ rfl (arg (wpAny_BinOp (nameLF y₁₀ rfl (nameLF y₁₀ rfl (mul_int ?_ (IntMulOk.of_right (intBits_le_64 (by omega) (by omega)))))))))))))
      have k₁₁ := Keeps.tok s₁₀ (s₁₀.toks + 1)
      have y₁₁ := y₁₀.step k₁₁
      refine arg (nameLF y₁₁ rfl (argEnd ⟨T₁₀, rec m rfl T₁₀ hA' (fr₁₀ : FrOk _ _ ({ s₁₀ with toks := s₁₀.toks + 1 } : Shared).heap) ha₁₀ (by omega) (by omega) fun D s₁₂ c₁₂ hD0 hD => ?_⟩))
      have y₁₂ := y₁₁.ch c₁₂ nofun nofun
      refine h D s₁₂ y₁₂.toCh (none_ch y₁₁.toCh hD0 List.not_mem_nil) ?_
      rw [laid, if_pos hz]
      exact hD
    · have hz' : ((uldGo (List.replicate (d - 1) size) [] bag).1 != []) = true := by simpa using hz
      rw [hz', if_pos rfl]
      refine wpAny_execs_cons (wpAny_Return_some (wpAny_BinOp (nameLF y₁₀ rfl (wpAny_List_spliced (arg (nameLF y₁₀ rfl (argEnd ⟨by show 1 ≤ _; decide, ?_⟩)))))))
      have k₁₁ := Keeps.push s₁₀ { cls := .type "list", data := .seq [Value.int size t].toArray }
      have y₁₁ := y₁₀.step k₁₁
      refine addInts (ms := [size]) (hl₁₀.keeps k₁₁) (IsInts.new _ (.cons _ _ .nil)) (by omega) (by simp) fun D s₁₂ k₁₂ hD0 hD => ?_
      have y₁₂ := y₁₁.step k₁₂
      refine h D s₁₂ y₁₂.toCh (none_ch y₁₁.toCh hD0 List.not_mem_nil) ?_
      cases n with
      | zero => exact hD
      | succ n =>
        rw [laid, if_neg hz]
        exact hD
theorem laid_c {w : World} {d : Nat} {u : Tok} (hd : d = 2 ∨ d = 3) : ∀ n, LaidC w d u n
  | 0 => laid_core hd 0 nofun
  | n + 1 => laid_core hd (n + 1) fun m e => by cases e; exact laid_c hd n
end Mine
end
section
open PySem PySem.W PySem.Calls PyProof.Rows
set_option maxRecDepth 100000
namespace Mine
def lamE : Expr := match fnBody 15 with | .Return (some (.Call _ (e :: _) _ _)) _ :: _ => e | _ => .Name "x" default
def lamArgs : Arguments := match lamE with | .Lambda a _ _ _ => a | _ => ⟨[], [], none, [], [], none, []⟩
def lamBody : Expr := match lamE with | .Lambda _ b _ _ => b | _ => .Name "x" default
def lamScope : Scope := match lamE with | .Lambda _ _ s _ => s | _ => fnScope 15
def lamPos : Pos := match lamE with | .Lambda _ _ _ p => p | _ => default
def lamQual : Str := fnName 15 ++ ".<locals>." ++ "<lambda>"

/-- all kept, dicts up to slots -/
def St (h h' : Heap) : Prop := ∀ b o, h.get? b = some o → ∃ sl, h'.get? b = some { o with slots := sl } ∧ ((∀ es n, o.data ≠ .dict es n) → sl = o.slots)
theorem St.get {h h' : Heap} (x : St h h') {b : Addr} {o : Obj} (e : h.get? b = some o) (hd : ∀ es n, o.data ≠ .dict es n) : h'.get? b = some o := by
  obtain ⟨sl, e', q⟩ := x b o e
  rw [e', q hd]
theorem St.ns {h h' : Heap} (x : St h h') {a : Addr} {m : Str → Option Value} (n : h.Ns a m) : h'.Ns a m := ns_slots (fun o e => (x a o e).imp fun _ q => q.1) n
theorem St.rec {h h' : Heap} (x : St h h') {v : Value} {q : Str} (c : h.CodeRec v q) : h'.CodeRec v q := by
  obtain ⟨c, o, vs, t, e, e1, e2, e3⟩ := c
  exact ⟨c, o, vs, t, e, x.get e1 (fun _ _ q => by rw [e2] at q; cases q), e2, e3⟩
theorem St.cell {h h' : Heap} (x : St h h') {c : Addr} {v : Option Value} (i : h.IsCell c v) : h'.IsCell c v := by
  obtain ⟨o, e, d⟩ := i
  exact ⟨o, x.get e (fun _ _ q => by rw [d] at q; cases q), d⟩
theorem St.of {h h' : Heap} (k : ∀ b o, h.get? b = some o → h'.get? b = some o) : St h h' := fun b o e => ⟨o.slots, k b o e, fun _ => rfl⟩
theorem FrOk.dict {A : Around} {F : List Addr} {h : Heap} (x : FrOk A F h) {b : Addr} {o : Obj} (hb : b ∈ F) (e : h.get? b = some o) : ∃ es n, o.data = .dict es n := by
  obtain ⟨l, e1, e2, e3⟩ := x
  rw [← e2] at hb
  obtain ⟨env, he, hf⟩ := List.mem_filterMap.mp hb
  obtain ⟨_, L, o', es, n, hf', ho, hd⟩ := e3 env he
  rw [hf] at hf'; cases hf'
  rw [e] at ho; cases ho
  exact ⟨es, n, hd⟩
theorem Ch.st {A : Around} {F : List Addr} {s s' : Shared} (c : Ch F [] s s') (fr : FrOk A F s.heap) : St s.heap s'.heap := by
  intro b o e
  obtain ⟨sl, e', q⟩ := c.kf b o List.not_mem_nil e
  refine ⟨sl, e', fun hd => q fun hm => ?_⟩
  obtain ⟨es, n, d⟩ := fr.dict hm e
  exact hd es n d
theorem Ch.pop {F X : List Addr} {s s₁ s₂ : Shared} {L : Addr} (k : Keeps s s₁) (c : Ch (L :: F) X s₁ s₂) (hL : s.heap.get? L = none) : Ch F X s s₂ := by
  obtain ⟨h, t, rfl, k⟩ := k
  obtain ⟨h', t', rfl, k'⟩ := c
  refine ⟨h', t', rfl, fun b o hX e => ?_⟩
  obtain ⟨sl, e', q⟩ := k' b o hX (k b o e)
  refine ⟨sl, e', fun hF => q fun hm => ?_⟩
  rcases List.mem_cons.mp hm with rfl | hm
  · rw [hL] at e; cases e
  · exact hF hm

structure LamOk (h : Heap) : Prop where
  code : CodeHd h 81 77
  tab : ∃ ps, h.get? 77 = some (tabObj ps) ∧ TriplesOk ps.toList ∧ (codeAmong lamPos ps.toList = none ∨ ∃ c', codeAmong lamPos ps.toList = some (.ref c') ∧ h.CodeRec (.ref c') lamQual)
  glb : ∃ mg, h.Ns mainGlobals mg ∧ h.BuiltinsAt mg 77
theorem LamOk.st {h h' : Heap} (x : LamOk h) (k : St h h') : LamOk h' := by
  refine ⟨?_, ?_, ?_⟩
  · obtain ⟨o, vs, file, tf, flags, tg, inF, text, tt, e, hc, hd, r⟩ := x.code
    exact ⟨o, vs, file, tf, flags, tg, inF, text, tt, k.get e (fun _ _ q => by rw [hd] at q; cases q), hc, hd, r⟩
  · obtain ⟨ps, e, ht, r⟩ := x.tab
    refine ⟨ps, k.get e nofun, ht, r.imp id fun ⟨c', h1, h2⟩ => ⟨c', h1, k.rec h2⟩⟩
  · obtain ⟨mg, n, bm, o, h1, h2, h3, h4, h5, h6, h7, h8⟩ := x.glb
    exact ⟨mg, k.ns n, bm, o, h1, h2, h3, h4, k.get h5 (fun _ _ q => by rw [h8] at q; cases q), h6, h7, h8⟩

/-- the lambda of _law_bag, as an object -/
def IsLam (h : Heap) (f cd : Addr) : Prop := ∃ pm c' ctv, h.get? f = some (kla_obj "<lambda>" lamQual lamArgs lamBody lamScope [("d", cd)] pm c' ctv) ∧ h.CodeRec (.ref c') lamQual
theorem IsLam.st {h h' : Heap} {f cd : Addr} (x : IsLam h f cd) (k : St h h') : IsLam h' f cd := by
  obtain ⟨pm, c', ctv, e, r⟩ := x
  exact ⟨pm, c', ctv, k.get e nofun, k.rec r⟩

section
variable {w : World} {A : Around} {s : Shared} {Q : Value → Shared → Prop} {E : Value → Shared → Prop}
theorem mkLam {L : Addr} (x : LamOk s.heap) (h : ∀ f s', Ch [] [77] s s' → s.heap.get? f = none → IsLam s'.heap f (L + 1) → LamOk s'.heap → Q (.ref f) s') : wpAny (MM w) A (eval lamE (envK 15 81 82 L)) Q E s := by
  obtain ⟨ps, e, ht, hf⟩ := x.tab
  obtain ⟨mg, n, hb⟩ := x.glb
  refine kla_eval (params := lamArgs) (body := lamBody) (scope := lamScope) (pos := lamPos) rfl ?_
  rcases hf with hf | ⟨c', hf, hc⟩
  · refine kla_makeFunction (c := 81) (P := 77) (clos := [("d", L + 1)]) rfl rfl n rfl x.code e ht hf (by decide) hb fun c' ctv h' tk hx hge hlt hrec htb => ?_
    have keep : ∀ b o, b ≠ 77 → s.heap.get? b = some o → (h'.push (kla_obj "<lambda>" lamQual lamArgs lamBody lamScope [("d", L + 1)] ((mg "__name__").getD .none) c' ctv)).get? b = some o := fun b o hb e => Heap.get?_push_of_some _ (hx b o hb e)
    have hrec' : (h'.push (kla_obj "<lambda>" lamQual lamArgs lamBody lamScope [("d", L + 1)] ((mg "__name__").getD .none) c' ctv)).CodeRec (.ref c') lamQual := by
      obtain ⟨c₂, oc, vs, t, e2, hoc, r⟩ := hrec
      exact ⟨c₂, oc, vs, t, e2, Heap.get?_push_of_some _ hoc, r⟩
    refine h _ _ ⟨_, tk, rfl, fun b o q e => ⟨o.slots, keep b o (fun q' => q (q' ▸ .head _)) e, fun _ => rfl⟩⟩ ?_ ⟨_, c', ctv, Heap.get?_push_size _ rfl, hrec'⟩ ⟨?_, ?_, ?_⟩
    · cases q : s.heap.get? h'.objs.size with
      | none => rfl
      | some o => exact absurd (Heap.lt_size q) (Nat.not_lt.mpr (Nat.le_of_lt (Nat.lt_of_le_of_lt hge hlt)))
    · obtain ⟨o, vs, file, tf, flags, tg, inF, text, tt, e, r⟩ := x.code
      exact ⟨o, vs, file, tf, flags, tg, inF, text, tt, keep _ _ (by decide) e, r⟩
    · have hl : (ps ++ #[rawInt lamPos.line, rawInt lamPos.col, Value.ref c']).toList = ps.toList ++ [rawInt lamPos.line, rawInt lamPos.col, .ref c'] := by simp
      refine ⟨_, Heap.get?_push_of_some _ htb, ?_, .inr ⟨c', ?_, hrec'⟩⟩
      · rw [hl]; exact TriplesOk_snoc _ _ _ _ ht
      · rw [hl, codeAmong_snoc _ ht hf]
    · obtain ⟨bm, o, h1, h2, h3, h4, h5, r⟩ := hb
      obtain ⟨og, es, ep, g1, g2⟩ := n
      exact ⟨mg, ⟨og, es, ep, keep _ _ (by decide) g1, g2⟩, bm, o, h1, h2, h3, h4, keep _ _ h4 h5, r⟩
  · refine kla_makeFunctionHit (c := 81) (P := 77) (clos := [("d", L + 1)]) rfl rfl n rfl x.code e ht hf hb fun ctv h' tk hk hsz => ?_
    have keep : ∀ b o, s.heap.get? b = some o → (h'.push { cls := .type "function", data := .func (kla_fn "<lambda>" lamQual lamArgs lamBody lamScope [("d", L + 1)] ((mg "__name__").getD .none) (.ref c') ctv) }).get? b = some o := fun b o e => Heap.get?_push_of_some _ (hk b o e)
    have hst := St.of keep
    refine h _ _ ⟨_, tk, rfl, KF.of keep⟩ ?_ ⟨_, c', ctv, Heap.get?_push_size _ rfl, hst.rec hc⟩ (x.st hst)
    cases q : s.heap.get? h'.objs.size with
    | none => rfl
    | some o => exact absurd (Heap.lt_size q) (Nat.not_lt.mpr hsz)

theorem lam_c {f cd l : Addr} {d n : Nat} {u t : Tok} {bag : List Int} {size : Int} {F : List Addr} (hd : d = 2 ∨ d = 3) (T : TopOk s.heap) (hA : Ok A (n + 3)) (fr : FrOk A F s.heap) (hf : IsLam s.heap f cd) (hc : s.heap.IsCell cd (some (.int d u))) (hl : IsInts s.heap l bag) (hn : bag.length ≤ n) (hn' : bag.length ≤ 100)
    (h : ∀ D s', Ch F [] s s' → s.heap.get? D = none → IsInts s'.heap D (laid d n bag size) → Q (.ref D) s') : wpAny (MM w) A (call (.ref f) [.ref l, .int size t]) Q E s := by
  obtain ⟨pm, c', ctv, e, hrec⟩ := hf
  refine wpAny_call (kla_callFunE (body := lamBody) hA.room e rfl rfl rfl rfl hrec ?_)
  refine wpAny_of_eq (a := ([("kept", .ref l), ("size", .int size t)] : List (Str × Value))) rfl ?_
  refine wpAny_newFunctionEnv (show ∀ x ∈ lamScope.names, x.2 ≠ .cell by decide) (fun y hy => ?_) (fun h₁ hns hsb => ⟨?_, ?_⟩) rfl
  · rcases List.mem_cons.mp hy with rfl | hy
    · rfl
    · rw [List.mem_singleton.mp hy]; rfl
  · exact T.lim.fresh _ hsb
  · have hk₁ : ∀ b o, s.heap.get? b = some o → h₁.get? b = some o := fun b o e => hsb.extBut b o (Nat.ne_of_lt (Heap.lt_size e)) (Heap.get?_push_of_some _ e)
    have k₁ : Keeps s { s with heap := h₁, toks := s.toks + 2 } := Keeps.mk hk₁
    have T₁ : TopOk h₁ := T.keeps k₁
    refine kla_codeExpr (env := newEnv lamScope s.heap.objs.size mainGlobals [("d", cd)] (lamQual ++ ".<locals>.") (some f) (.ref c') none builtinsNs) ?_
    have hA' : Ok (A.deeper (newEnv lamScope s.heap.objs.size mainGlobals [("d", cd)] (lamQual ++ ".<locals>.") (some f) (.ref c') none builtinsNs)) (n + 2) := hA.deeper
    have fr₁ : FrOk (A.deeper (newEnv lamScope s.heap.objs.size mainGlobals [("d", cd)] (lamQual ++ ".<locals>.") (some f) (.ref c') none builtinsNs)) (s.heap.objs.size :: F) h₁ := (fr.keep hk₁).push nofun rfl hns
    refine callFn (s := { s with heap := h₁, toks := s.toks + 2 }) T₁ rfl ?_
    refine arg (wpAny_Name (wpAny_loadName_local rfl rfl hns (v := .ref l) rfl ?_) (by decide))
    refine arg (wpAny_Name (wpAny_loadName_local rfl rfl hns (v := .int size t) rfl ?_) (by decide))
    refine arg (wpAny_Name (wpAny_loadName_free rfl rfl rfl (hc.keeps hk₁) ?_) (by decide))
    refine argEnd ⟨T₁, laid_c hd n (s := { s with heap := h₁, toks := s.toks + 2 }) T₁ hA' fr₁ (hl.keeps k₁) hn hn' fun D s' c hD0 hD => ?_⟩
    exact h D s' (Ch.pop k₁ c (not_old (fun _ _ e => e) (Nat.le_refl _))) (none_old k₁ hD0) hD
end
end Mine
end
section
open PySem PySem.W PySem.Calls PyProof.Rows
set_option maxRecDepth 100000
namespace Mine
def lay (d : Nat) (B : List Int) (x : Int) : List Int := laid d B.length B x
def bagOf (d : Nat) (B xs : List Int) : List Int := xs.foldl (lay d) B
theorem laid_len (d : Nat) : ∀ n (B : List Int) (x : Int), (laid d n B x).length ≤ B.length + 1
  | 0, B, x => by simp [laid]
  | n + 1, B, x => by
    rw [laid]
    split
    · rename_i h
      have := (uldGo_len _ _ _ h).2
      have h2 := laid_len d n (uldGo (List.replicate (d - 1) x) [] B).2 (x * d)
      omega
    · simp
theorem lay_len (d : Nat) (B : List Int) (x : Int) : (lay d B x).length ≤ B.length + 1 := laid_len ..

theorem InF.stepX {F X X' : List Addr} {s₀ s s' : Shared} {L : Addr} {m cm : Str → Option Value} {cs : List (Str × Addr)} (x : InF F X s₀ L m cs cm s) (a : Ch (L :: F) X' s s') (hX : ∀ b ∈ X', ∀ o, s₀.heap.get? b = some o → b ∈ X)
    (hX' : ∀ b ∈ X', ∃ o, s.heap.get? b = some o ∧ (∀ es n, o.data ≠ .dict es n) ∧ ∀ v, o.data ≠ .cell v) : InF F X s₀ L m cs cm s' := by
  obtain ⟨h', tk, rfl, k⟩ := a
  obtain ⟨h, t, rfl⟩ := x.same
  have noX : ∀ b o, s₀.heap.get? b = some o → b ∉ X → b ∉ X' := fun b o e q q' => q (hX b q' o e)
  refine ⟨⟨h', tk, rfl⟩, ns_slots (fun o e => ?_) x.ns, ?_, x.fresh, fun n c hc => ?_, x.apart, x.above⟩
  · obtain ⟨sl, e', _⟩ := k L o (fun q => by
      obtain ⟨o₂, e₂, hd, _⟩ := hX' _ q
      obtain ⟨o', es, ep, h1, h2, _⟩ := x.ns
      rw [e₂] at h1; cases h1; exact hd _ _ h2) e
    exact ⟨sl, e'⟩
  · intro b o q e
    obtain ⟨sl, e', q'⟩ := x.keep b o q e
    obtain ⟨sl', e'', q''⟩ := k b _ (noX b o e q) e'
    refine ⟨sl', e'', fun hF => (q'' fun hm => ?_).trans (q' hF)⟩
    rcases List.mem_cons.mp hm with rfl | hm
    · exact absurd (Heap.lt_size e) (Nat.not_lt.mpr x.fresh)
    · exact hF hm
  · obtain ⟨o, ho, hd⟩ := x.cell n c hc
    obtain ⟨sl, e', _⟩ := k c o (fun q => by
      obtain ⟨o₂, e₂, _, hc'⟩ := hX' _ q
      rw [e₂] at ho; cases ho; exact hc' _ hd) ho
    exact ⟨_, e', hd⟩

section
variable {w : World} {A : Around} {s : Shared} {Q : Value → Shared → Prop} {E : Value → Shared → Prop}
theorem enterD {n a k c : Nat} {dv : Value} {vals : List Value} {binds : List (Str × Value)} (T : TopOk s.heap) (hA : Ok A n) (hf : fns.lookup a = some (k, c, dv))
    (hbind : ∀ pm doc (Q' : List (Str × Value) → Shared → Prop) E', Q' binds s → wpAny (MM w) A.in1 (bindArgs (fdOf k c dv pm doc) ⟨vals, []⟩) Q' E' s)
    (hkind : ∀ N : Nat, ∀ x ∈ binds, (fnScope k).names.lookup x.1 = some .local ∨ ((fnScope k).names.lookup x.1 = some .cell ∧ ((cellsFrom N (fnScope k).names []).lookup x.1).isSome = true))
    (hsc : (fnScope k).isCoroutine = false ∧ (fnScope k).isGenerator = false ∧ (fnScope k).kind = .function)
    (h : ∀ s₁, InCallC s s.heap.objs.size (bindL (envK k c a s.heap.objs.size).kindOf binds fun _ => none) (envK k c a s.heap.objs.size).cells (bindC (envK k c a s.heap.objs.size).kindOf binds fun _ => none) s₁ →
      wpAny (MM w) (A.deeper (envK k c a s.heap.objs.size)) (execs (fnBody k) (envK k c a s.heap.objs.size)) (fun f s' => Q (match f with | .ret v => v | _ => .none) s') (fun _ _ => False) s₁) :
    wpAny (MM w) A (call (.ref a) vals) Q E s := by
  obtain ⟨o, pm, doc, ho, hd, hcd⟩ := T.fn a k c dv hf
  refine wpAny_call (codeAny_call_function (fd := fdOf k c dv pm doc) (body := fnBody k) hA.room ho hd hsc.1 hsc.2.1 rfl hcd (hbind pm doc _ _ ?_))
  refine wpAny_newFunctionEnv_cells (scope := fnScope k) hsc.2.2 (hkind _) fun env he s' x => ?_
  subst he
  exact ⟨T.lim.keeps x.toInCall.keep, codeAny_func (wpAny_mono (h s' x) (fun f s' q => q) (fun _ _ f => f.elim))⟩
theorem iterInts {l : Addr} {ns : List Int} (hl : IsInts s.heap l ns) (h : ∀ it s', Keeps s s' → s.heap.get? it = none → s'.heap.IsListIter it l 0 → Q (.ref it) s') : wpAny (MM w) A (call (.builtin "iter") [.ref l]) Q E s := by
  obtain ⟨vs, hl, hi⟩ := hl.list
  refine call_function_entry (by decide +kernel) (by decide +kernel) kdk_entry_iter (kdk_args_iter _) ?_
  unfold Builtin.«iter»
  refine wpAny_bind (m := someArgs "iter" 1 2 _) (wpAny_of_eq (a := [Value.ref l]) (by first | rfl | kernel_rfl!) ?_)
  show wpAny _ _ (pyIter (.ref l) >>= _) _ _ _
  refine wpAny_bind (wpAny_pyIter_list hl ?_)
  exact wpAny_pure ⟨_, rfl, h _ _ (Keeps.push _ _) (not_old (fun _ _ e => e) (Nat.le_refl _)) ⟨_, Heap.get?_push_size _ rfl, rfl, rfl⟩⟩
/-- next of a list's iterator -/
theorem nextInts {it l : Addr} {ns : List Int} {i : Nat} {Q : Option Value → Shared → Prop} (hh : A.handled = none) (hit : s.heap.IsListIter it l i) (hl : IsInts s.heap l ns)
    (h1 : ∀ n, ns[i]? = some n → ∀ t s', Ch [] [it] s s' → s'.heap.IsListIter it l (i + 1) → Q (some (.int n t)) s') (h2 : ns.length ≤ i → ∀ s', Ch [] [it] s s' → Q none s') : wpAny (MM w) A (pyNext (.ref it)) Q E s := by
  obtain ⟨vs, hl, hi⟩ := hl.list
  have chg : ∀ h', Heap.ExtBut it s.heap h' → Ch [] [it] s { s with heap := h' } := fun h' e => ⟨h', s.toks, rfl, fun b o q e' => ⟨o.slots, e b o (fun q' => q (q' ▸ .head _)) e', fun _ => rfl⟩⟩
  by_cases hlt : i < ns.length
  · have hg : ns[i]? = some ns[i] := List.getElem?_eq_getElem hlt
    obtain ⟨t, ht⟩ := hi.get i _ hg
    exact wpAny_pyNext_list_item hit hl (by simpa using ht) fun h' a b => h1 _ hg t _ (chg h' b.extBut) a
  · refine wpAny_pyNext_list_end hh hit hl ?_ fun h' b => h2 (Nat.le_of_not_lt hlt) _ (chg h' b)
    have := hi.length
    simp; omega

theorem callLoc {F X : List Addr} {s₀ : Shared} {m cm : Str → Option Value} {nm : Str} {np pos : Pos} {e : Expr} {rest : List Expr} {a : Addr} {env : Env} (x : InF F X s₀ env.locals m env.cells cm s) (hv : m nm = some (.ref a))
    (h : wpAny (MM w) A (spliced (backTo pos (starEach (e :: rest) env))) (fun vs s₁ => FnHere a s₁.heap ∧ wpAny (MM w) A (call (.ref a) vs) Q E s₁) E s)
    (hk : env.scope.kind = .function := by rfl) (hl : env.kindOf nm = some .local := by rfl) (hd : (nm == ("__debug__" : Str)) = false := by decide)
    (he : starEach (e :: rest) env = (false, eval e env) :: starEach rest env := by rfl) (hplain : (backTo pos (starEach rest env)).any (·.1) = false := by rfl) :
    wpAny (MM w) A (eval (.Call (.Name nm np) (e :: rest) [] pos) env) Q E s := by
  refine wpAny_Call_NameR (nameLF x hv ?_ hk hl hd)
  rw [he] at h ⊢
  exact callWith_of (P := FnHere a) (by show ((false || (backTo pos (starEach rest env)).any (·.1)) || false) = false; rw [hplain]; rfl) fnKeeper (evalArgs_plain (wpAny_mono h (fun vs s₁ q => q) fun _ _ e => e))
theorem IsLam.here {h : Heap} {f cd : Addr} (x : IsLam h f cd) : FnHere f h := by
  obtain ⟨pm, c', ctv, e, _⟩ := x
  exact ⟨_, _, e, rfl⟩

set_option maxHeartbeats 1000000 in
theorem reduce_c {f cd l b : Addr} {d : Nat} {u : Tok} {ns B : List Int} {F : List Addr} (hd : d = 2 ∨ d = 3) (T : TopOk s.heap) (hA : Ok A 60) (fr : FrOk A F s.heap) (hf : IsLam s.heap f cd) (hc : s.heap.IsCell cd (some (.int d u))) (hl : IsInts s.heap l ns) (hb : IsInts s.heap b B) (hn : ns.length + B.length ≤ 40)
    (h : ∀ D s', Ch F [] s s' → IsInts s'.heap D (bagOf d B ns) → Q (.ref D) s') : wpAny (MM w) A (call (.ref 44) [.ref f, .ref l, .ref b]) Q E s := by
  refine enterD (k := 6) (c := 43) (dv := .ref 37) (binds := [("function", .ref f), ("sequence", .ref l), ("initial", .ref b)]) T hA rfl (fun pm doc Q' E' hq => ?_) (fun N x hx => ?_) ⟨rfl, rfl, rfl⟩ fun s₁ x => ?_
  · obtain ⟨o, n, e, _, hdt⟩ := T.dflt
    show wpAny _ _ (seqItems? (.ref 37) >>= _) _ _ _
    refine wpAny_bind (wpAny_seqItems e hdt ?_)
    exact wpAny_of_eq (a := ([("function", .ref f), ("sequence", .ref l), ("initial", .ref b)] : List (Str × Value))) rfl hq
  · rcases List.mem_cons.mp hx with rfl | hx
    · exact .inl rfl
    · rcases List.mem_cons.mp hx with rfl | hx
      · exact .inl rfl
      · rcases List.mem_cons.mp hx with rfl | hx
        · exact .inl rfl
        · cases hx
  · have hA' : Ok (A.deeper (envK 6 43 44 s.heap.objs.size)) 59 := hA.deeper
    have T₁ := topC x T
    have fr₁ : FrOk (A.deeper (envK 6 43 44 s.heap.objs.size)) (s.heap.objs.size :: F) s₁.heap := (fr.keep fun b o e => Keeps.get (keptC x) e).push nofun rfl x.toInCall.ns
    have y : InF F [] s (envK 6 43 44 s.heap.objs.size).locals _ (envK 6 43 44 s.heap.objs.size).cells _ s₁ := InF.of x
    have hl₁ := hl.keeps (keptC x)
    have hb₁ := hb.keeps (keptC x)
    refine wpAny_execs_cons (wpAny_Assign_Name (callBu T₁ rfl (arg (nameLF y rfl (argEnd (iterInts hl₁ fun it s₂ k₂ hit0 hit => ?_))))))
    have it_s : s.heap.get? it = none := none_old (keptC x) hit0
    refine storeLF (y.step k₂) fun s₃ y₃ k₃ _ => ?_
    have fr₃ := (fr₁.keep fun b o e => Keeps.get k₂ e).store y₃.ns k₃
    have T₃ : TopOk s₃.heap := y₃.toCh.top T nofun
    have hl₃ := (hl₁.keeps k₂).locals (y.step k₂).ns k₃
    have hb₃ := (hb₁.keeps k₂).locals (y.step k₂).ns k₃
    have hit₃ : s₃.heap.IsListIter it l 0 := by
      obtain ⟨o, e, r⟩ := hit
      refine ⟨o, k₃ it o (fun q => ?_) e, r⟩
      obtain ⟨o', _, _, e', d', _⟩ := (y.step k₂).ns
      rw [q, e'] at e; cases e
      rw [d'] at r; cases r.2
    refine wpAny_execs_cons (wpAny_If (wpAny_isTrue_Compare1 (nameLF y₃ rfl (nameGl T₃ rfl ?_))))
    obtain ⟨om, em, cm⟩ := T₃.miss
    obtain ⟨vb, nb, eb, ib⟩ := id hb₃
    refine wpAny_is_ref_other (fun q => ?_) eb em (fun q => absurd q (by simp)) (wpAny_truthy_bool ?_)
    · have eb' : s₃.heap.get? b = some _ := eb
      rw [q, em] at eb'; cases eb'; simp at cm
    rw [if_neg (by decide)]
    refine wpAny_execs_cons (wpAny_Assign_Name (nameLF y₃ rfl (storeLF y₃ fun s₄ y₄ k₄ _ => ?_)))
    have fr₄ := fr₃.store y₄.ns k₄
    have hl₄ := hl₃.locals y₃.ns k₄
    have hb₄ := hb₃.locals y₃.ns k₄
    have hit₄ : s₄.heap.IsListIter it l 0 := by
      obtain ⟨o, e, r⟩ := hit₃
      refine ⟨o, k₄ it o (fun q => ?_) e, r⟩
      obtain ⟨o', _, _, e', d', _⟩ := y₃.ns
      rw [q, e'] at e; cases e
      rw [d'] at r; cases r.2
    refine wpAny_execs_nil (wpAny_execs_cons (wpAny_For (nameLF y₄ rfl (wpAny_pyIter_listiter hit₄ ?_))))
    obtain ⟨Inv, hInv⟩ : ∃ Inv : Nat → Shared → Prop, ∀ j s', Inv j s' ↔ ∃ i V v m, j = ns.length - i ∧ i ≤ ns.length ∧ m "function" = some (.ref f) ∧ m "value" = some (.ref v) ∧ InF F [] s (envK 6 43 44 s.heap.objs.size).locals m (envK 6 43 44 s.heap.objs.size).cells (bindC (envK 6 43 44 s.heap.objs.size).kindOf [("function", .ref f), ("sequence", .ref l), ("initial", .ref b)] fun _ => none) s' ∧
      FrOk (A.deeper (envK 6 43 44 s.heap.objs.size)) (s.heap.objs.size :: F) s'.heap ∧ s'.heap.IsListIter it l i ∧ IsInts s'.heap l ns ∧ IsInts s'.heap v V ∧ V.length ≤ B.length + i ∧ bagOf d V (ns.drop i) = bagOf d B ns := ⟨_, fun _ _ => Iff.rfl⟩
    refine codeAny_forLoop Inv ?_ ns.length ((hInv _ _).mpr ⟨0, B, b, _, rfl, Nat.zero_le _, rfl, rfl, y₄, fr₄, hit₄, hl₄, hb₄, Nat.le_refl _, rfl⟩)
    intro j s₅ hi₅
    obtain ⟨i, V, v, m, rfl, hi, mf, mv, y₅, fr₅, hit₅, hl₅, hv₅, hlen, hgo⟩ := (hInv _ _).mp hi₅
    clear hi₅ y₄ fr₄ hit₄ hl₄ hb₄ y₃ fr₃ hit₃ hl₃ hb₃
    have itX : ∀ x ∈ [it], ∀ o, s.heap.get? x = some o → x ∈ [] := one (P := fun x => ∀ o, s.heap.get? x = some o → x ∈ []) fun o q => by rw [it_s] at q; cases q
    have itX' : ∀ x ∈ [it], ∃ o, s₅.heap.get? x = some o ∧ (∀ es n, o.data ≠ .dict es n) ∧ ∀ v, o.data ≠ .cell v := one (P := fun x => ∃ o, s₅.heap.get? x = some o ∧ (∀ es n, o.data ≠ .dict es n) ∧ ∀ v, o.data ≠ .cell v) (by
      obtain ⟨o, e, _, r⟩ := hit₅
      refine ⟨o, e, fun _ _ q => ?_, fun _ q => ?_⟩ <;> (rw [r] at q; cases q))
    have itF : it ∉ s.heap.objs.size :: F := fun q => by
      obtain ⟨o, e, _, r⟩ := hit₅
      obtain ⟨es, n, d⟩ := fr₅.dict q e
      rw [r] at d; cases d
    have itL : ∀ {x : Addr} {xs : List Int}, IsInts s₅.heap x xs → x ∉ [it] := fun hx q => by
      obtain ⟨o, e, _, r⟩ := hit₅
      obtain ⟨vs, n, e', _⟩ := hx
      have e'' : s₅.heap.get? _ = some _ := e'
      rw [List.mem_singleton.mp q, e] at e''; cases e''
      cases r
    refine nextInts hA'.hh hit₅ hl₅ (fun n hn' t s₆ c₆ hit₆ => gen2 fun R₁ F₁ hR₁ => ?_) fun hle s₆ c₆ => ?_
    · have y₆ := y₅.stepX (c₆.mono (by simp) fun _ h => h) itX itX'
      have fr₆ := fr₅.ch c₆ (one (P := fun b => b ∉ _) itF)
      have hl₆ := hl₅.ch c₆ (itL hl₅) (by simp)
      have hv₆ := hv₅.ch c₆ (itL hv₅) (by simp)
      refine wpAny_assign_Name (storeLF y₆ fun s₇ y₇ k₇ _ => hR₁ _ _ (gen2 fun R₂ F₂ hR₂ => ?_))
      clear hR₁
      have fr₇ := fr₆.store y₇.ns k₇
      have hl₇ := hl₆.locals y₆.ns k₇
      have hv₇ := hv₆.locals y₆.ns k₇
      have T₇ : TopOk s₇.heap := y₇.toCh.top T nofun
      have hit₇ : s₇.heap.IsListIter it l (i + 1) := by
        obtain ⟨o, e, r⟩ := hit₆
        refine ⟨o, k₇ it o (fun q => ?_) e, r⟩
        obtain ⟨o', _, _, e', d', _⟩ := y₆.ns
        rw [q, e'] at e; cases e
        rw [d'] at r; cases r.2
      have st₇ : St s.heap s₇.heap := y₇.toCh.st fr
      refine wpAny_execs_cons (wpAny_Assign_Name (callLoc y₇ mf (arg (nameLF y₇ mv (arg (nameLF y₇ rfl (argEnd ⟨(hf.st st₇).here, lam_c (n := V.length) hd T₇ (hA'.less (by omega)) fr₇ (hf.st st₇) (st₇.cell hc) hv₇ (Nat.le_refl _) (by omega) fun D s₈ c₈ hD0 hD => ?_⟩)))))))
      have y₈ := y₇.ch c₈ nofun nofun
      have fr₈ := fr₇.ch c₈ nofun
      have hl₈ := hl₇.ch c₈ List.not_mem_nil (fr₇.notInts hl₇)
      have hit₈ : s₈.heap.IsListIter it l (i + 1) := by
        obtain ⟨o, e, r⟩ := hit₇
        exact ⟨o, c₈.get List.not_mem_nil itF e, r⟩
      refine storeLF y₈ fun s₉ y₉ k₉ _ => wpAny_execs_nil ?_
      have hit₉ : s₉.heap.IsListIter it l (i + 1) := by
        obtain ⟨o, e, r⟩ := hit₈
        refine ⟨o, k₉ it o (fun q => ?_) e, r⟩
        obtain ⟨o', _, _, e', d', _⟩ := y₈.ns
        rw [q, e'] at e; cases e
        rw [d'] at r; cases r.2
      have hlt : i < ns.length := (List.getElem?_eq_some_iff.mp hn').1
      refine hR₂ _ _ ⟨ns.length - (i + 1), by omega, (hInv _ _).mpr ⟨i + 1, _, D, (fun y => if y = "value" then some (Value.ref D) else if y = "element" then some (Value.int n t) else m y), rfl, by omega, mf, rfl, y₉, fr₈.store y₉.ns k₉, hit₉, hl₈.locals y₈.ns k₉, hD.locals y₈.ns k₉, ?_, ?_⟩⟩
      · have := lay_len d V n
        unfold lay at this
        omega
      · rw [← hgo, List.drop_eq_getElem_cons hlt]
        have : n = ns[i] := by rw [List.getElem?_eq_getElem hlt] at hn'; cases hn'; rfl
        rw [this]
        rfl
    · refine wpAny_execs_nil ?_
      have y₆ := y₅.stepX (c₆.mono (by simp) fun _ h => h) itX itX'
      refine wpAny_execs_cons (wpAny_Return_some (nameLF y₆ mv ?_))
      refine h v s₆ y₆.toCh ?_
      have : ns.drop i = [] := List.drop_eq_nil_of_le hle
      rw [this] at hgo
      rw [← hgo]
      exact hv₅.ch c₆ (itL hv₅) (by simp)
set_option maxHeartbeats 1000000 in
theorem bag_c {l b : Addr} {d : Nat} {u : Tok} {ns B : List Int} {F : List Addr} (hd : d = 2 ∨ d = 3) (T : TopOk s.heap) (lk : LamOk s.heap) (hA : Ok A 61) (fr : FrOk A F s.heap) (hl : IsInts s.heap l ns) (hb : IsInts s.heap b B) (hn : ns.length + B.length ≤ 40)
    (h : ∀ D s', Ch F [77] s s' → LamOk s'.heap → IsInts s'.heap D (bagOf d B ns) → Q (.ref D) s') : wpAny (MM w) A (call (.ref 82) [.ref b, .ref l, .int d u]) Q E s := by
  refine enter (k := 15) (c := 81) (binds := [("bag", .ref b), ("sizes", .ref l), ("d", .int d u)]) T hA rfl (fun _ _ => rfl) (fun N x hx => ?_) ⟨rfl, rfl, rfl⟩ fun s₁ x => ?_
  · rcases List.mem_cons.mp hx with rfl | hx
    · exact .inl rfl
    · rcases List.mem_cons.mp hx with rfl | hx
      · exact .inl rfl
      · rcases List.mem_cons.mp hx with rfl | hx
        · exact .inr ⟨rfl, rfl⟩
        · cases hx
  · have hA' : Ok (A.deeper (envK 15 81 82 s.heap.objs.size)) 60 := hA.deeper
    have T₁ := topC x T
    have fr₁ : FrOk (A.deeper (envK 15 81 82 s.heap.objs.size)) (s.heap.objs.size :: F) s₁.heap := (fr.keep fun b o e => Keeps.get (keptC x) e).push nofun rfl x.toInCall.ns
    have y : InF F [77] s (envK 15 81 82 s.heap.objs.size).locals _ (envK 15 81 82 s.heap.objs.size).cells _ s₁ := InF.of x
    have hl₁ := hl.keeps (keptC x)
    have hb₁ := hb.keeps (keptC x)
    have lk₁ : LamOk s₁.heap := lk.st (St.of fun b o e => Keeps.get (keptC x) e)
    have tabX : ∀ b ∈ [77], ∃ o, s₁.heap.get? b = some o ∧ (∀ es n, o.data ≠ .dict es n) ∧ ∀ v, o.data ≠ .cell v := one (P := fun b => ∃ o, s₁.heap.get? b = some o ∧ (∀ es n, o.data ≠ .dict es n) ∧ ∀ v, o.data ≠ .cell v) (by
      obtain ⟨ps, e, _⟩ := lk₁.tab
      exact ⟨_, e, nofun, nofun⟩)
    have tabF : 77 ∉ s.heap.objs.size :: F := fun q => by
      obtain ⟨ps, e, _⟩ := lk₁.tab
      obtain ⟨es, n, d⟩ := fr₁.dict q e
      cases d
    have tabL : ∀ {z : Addr} {zs : List Int}, IsInts s₁.heap z zs → z ∉ [77] := fun hz q => by
      obtain ⟨ps, e, _⟩ := lk₁.tab
      obtain ⟨vs, n, e', _⟩ := hz
      have e'' : s₁.heap.get? _ = some _ := e'
      rw [List.mem_singleton.mp q, e] at e''; cases e''
    refine wpAny_execs_cons (wpAny_Return_some (callFn T₁ rfl (arg (mkLam (L := s.heap.objs.size) lk₁ fun f s₂ c₂ hf0 hf lk₂ => ?_))))
    have y₂ := y.stepX (c₂.mono (by simp) fun _ h => h) (fun b hb o _ => hb) tabX
    have fr₂ := fr₁.ch c₂ (one (P := fun b => b ∉ _) tabF)
    have T₂ : TopOk s₂.heap := c₂.top T₁ (one (P := fun b => b = 30 ∨ b = 77 ∨ s₁.heap.get? b = none ∨ ∃ ns, IsInts s₁.heap b ns) (.inr (.inl rfl)))
    have hl₂ := hl₁.ch c₂ (tabL hl₁) (by simp)
    have hb₂ := hb₁.ch c₂ (tabL hb₁) (by simp)
    refine arg (nameLF y₂ rfl (arg (nameLF y₂ rfl (argEnd ⟨T₂, reduce_c hd T₂ hA' fr₂ hf (y₂.cell "d" _ rfl) hl₂ hb₂ hn fun D s₃ c₃ hD => ?_⟩))))
    exact h D s₃ (y₂.ch c₃ nofun nofun).toCh (lk₂.st (c₃.st fr₂)) hD
end
end Mine
end
section
open PySem PySem.W PySem.Calls PyProof.Rows
set_option maxRecDepth 100000
namespace Mine
section
variable {w : World} {A : Around} {s : Shared} {Q : Value → Shared → Prop} {E : Value → Shared → Prop} {env : Env}
theorem sumInts {l : Addr} {ns : List Int} (hh : A.handled = none) (hl : IsInts s.heap l ns) (h : ∀ t s', Keeps s s' → Q (.int ns.sum t) s') : wpAny (MM w) A (call (.builtin "sum") [.ref l]) Q E s := by
  obtain ⟨vs, hl, hi⟩ := hl.list
  obtain ⟨xs, hxs⟩ := hi.allInts.items
  rw [hxs] at hl
  refine sum_intListG hh hl fun h' tk t' hk => ?_
  have e : ns = xs.toList.map (·.1) := by
    have h1 := hi.numsOf
    have h2 : numsOf (intItems xs).toList = xs.toList.map (·.1) := nums_intItems xs
    rw [← hxs] at h2
    rw [← h1, ← h2]
  have := h t' _ (Keeps.mk (t := tk) hk)
  rw [e] at this
  rw [preSum_eq, List.take_of_length_le (by simp)]
  exact this

/-- a comprehension over a list, its list bound to a name of the frame -/
theorem setCompRange {s₀ : Shared} {m cm : Str → Option Value} {elt iter : Expr} {x y : Str} {px py pos spos : Pos} {ifs : List Expr} {scope : Scope} {cl : List (Str × Addr)} {pz : Int → Bool} {f : Int → Int} {Q : Flow → Shared → Prop}
    (hh : A.handled = none)
    (h : wpAny (MM w) A (eval iter env) (fun xv s₁ => ∃ r n t u v, xv = .ref r ∧ IsRange s₁.heap r 0 (n : Nat) 1 t u v ∧ n ≤ 1000000 ∧ InCallC s₀ env.locals m env.cells cm s₁ ∧
      (∀ C (i : Nat) t s₂ m₂ E', i < n → s₂.heap.Ns C m₂ → m₂ x = some (.int i t) → (∀ b o, s₁.heap.get? b = some o → s₂.heap.get? b = some o) → wpAny (MM w) A (testsOf ifs (compEnvC scope cl C env)) (fun ok s₃ => ok = pz i ∧ Keeps s₂ s₃) E' s₂) ∧
      (∀ C (i : Nat) t s₂ m₂ E', i < n → pz i = true → s₂.heap.Ns C m₂ → m₂ x = some (.int i t) → (∀ b o, s₁.heap.get? b = some o → s₂.heap.get? b = some o) → wpAny (MM w) A (eval elt (compEnvC scope cl C env)) (fun y s₃ => (∃ u, y = .int (f i) u) ∧ Keeps s₂ s₃) E' s₂) ∧
      (∀ D s', InCallC s₀ env.locals (fun z => if z = y then some (.ref D) else m z) env.cells cm s' → (∀ b o, b ≠ env.locals → s₁.heap.get? b = some o → s'.heap.get? b = some o) → IsInts s'.heap D (((upto n).filter pz).map f) → Q .next s')) E s)
    (hsw : swapsWith (.ListComp elt [⟨.Name x px, iter, ifs, 0⟩] scope pos) (some (.Name y py)) spos.line env = pure true)
    (hy : env.kindOf y = some .local) (hp : (env.scope.kind == .class || (env.scope.kind == .module && env.locals != env.globals)) = false)
    (hclos : closureFor scope env = pure cl) (hcell : ∀ y ∈ scope.names, y.2 ≠ .cell) (hkind : scope.kind = .function)
    (hnames : ∀ y ∈ scope.names, y.2 = .local → scope.names.lookup y.1 = some .local) (hx : scope.names.lookup x = some .local)
    (hs : ∀ x, foldedSetIterable iter env x = pure x := by intro _; rfl) :
    wpAny (MM w) A (exec (.Assign [.Name y py] (.ListComp elt [⟨.Name x px, iter, ifs, 0⟩] scope pos) spos) env) Q E s := by
  refine wpAny_Assign_ListComp_free (numP pz) (fun v y => ∃ n t u, v = .int n t ∧ y = .int (f n) u) hsw hclos hcell hkind hnames hx hy hp (wpAny_mono h (fun xv s₁ h₁ => ?_) fun _ _ e => e) hs
  obtain ⟨r, n, t, u, v, rfl, hr, hsz, x₁, ht, he, hQ⟩ := h₁
  have up : ∀ (s₃ : Shared), (∀ b o, b ∉ [s₁.heap.objs.size] → (s₁.heap.push { cls := .type "range_iterator", data := .fields #[rawInt 0, rawInt (Builtin.Range.rangeSize 0 (n : Nat) 1), rawInt 1] }).get? b = some o → s₃.heap.get? b = some o) → ∀ b o, s₁.heap.get? b = some o → s₃.heap.get? b = some o := by
    intro s₃ hk b o e
    refine hk b o (fun hm => ?_) (Heap.get?_push_of_some _ e)
    rw [List.mem_singleton] at hm
    exact Nat.lt_irrefl _ (hm ▸ Heap.lt_size e)
  have hsize : Builtin.Range.rangeSize 0 (n : Nat) 1 = (n : Int) := by rw [rangeSize_one]; split <;> omega
  have hint : ∀ (i : Nat) (v : Value), (i < n ∧ ∃ t, v = Value.int (0 + (i : Nat) * 1) t) → ∃ t, v = .int (i : Int) t := by
    rintro i v ⟨_, t, e⟩
    exact ⟨t, by rw [e]; congr 1; omega⟩
  refine wpAny_pyIter_range hr (small_one (by omega) (by omega) (by omega) (by omega)) ⟨s₁.heap.objs.size, [s₁.heap.objs.size], [s₁.heap.objs.size], n, _, _, m, rfl, (Walks.range hh _ 0 1 n).bound, Nat.le_trans hsz (by decide), (by show IsRangeIter _ _ _ _ _; rw [hsize]; simpa using Heap.get?_push_size _ rfl), ?_, ?_, (x₁.toInCall.ns.push _), ⟨?_, ?_⟩, ?_⟩
  · intro b hb
    show b < (s₁.heap.push _).objs.size
    rw [Heap.size_push]
    simp only [List.mem_cons, List.not_mem_nil, or_false] at hb
    rw [hb]
    exact Nat.lt_succ_self _
  · intro hm
    obtain ⟨o, _, _, e, _⟩ := x₁.toInCall.ns
    exact absurd (Heap.lt_size e) (by rw [List.mem_singleton.mp hm]; exact Nat.lt_irrefl _)
  · intro C i v s₃ m₃ E' _ hP hn hm hk _
    obtain ⟨t, rfl⟩ := hint i v hP
    exact ht C i t s₃ m₃ E' hP.1 hn hm (up s₃ hk)
  · intro C i v s₃ m₃ E' _ hP hp hn hm hk _
    obtain ⟨t, rfl⟩ := hint i v hP
    refine wpAny_mono (he C i t s₃ m₃ E' hP.1 hp hn hm (up s₃ hk)) (fun y s₄ h₄ => ?_) fun _ _ e => e
    obtain ⟨⟨u, rfl⟩, k⟩ := h₄
    exact ⟨⟨i, t, u, rfl, rfl⟩, k⟩
  · intro D h' tk ys vs' hnew _ hplD hlen hP hF hns hk
    have hi : IntsAre vs' (upto n) := by
      have := ints_of_places n vs' 0 hlen fun j v hv => by
        obtain ⟨t, e⟩ := hint j v (hP j v hv)
        exact ⟨t, by rw [e]; congr 2; omega⟩
      simpa [upto] using this
    have kk : ∀ b o, b ≠ env.locals → s₁.heap.get? b = some o → h'.get? b = some o := by
      intro b o hb e
      refine hk b o hb (fun hm => ?_) (Heap.get?_push_of_some _ e)
      rw [List.mem_singleton] at hm
      exact Nat.lt_irrefl _ (hm ▸ Heap.lt_size e)
    refine hQ D _ ⟨⟨?_, hns, fun b o e => ?_, x₁.toInCall.fresh⟩, fun k c hc => ?_, x₁.apart, x₁.above⟩ kk (IsInts.of_plain hplD (ints_of_paired (fun _ _ q => q) (ints_filter (fun _ _ => rfl) hi) hF))
    · obtain ⟨h₂, tk₂, rfl⟩ := x₁.toInCall.same
      exact ⟨h', tk, rfl⟩
    · exact kk b o (Nat.ne_of_lt (Nat.lt_of_lt_of_le (Heap.lt_size e) x₁.toInCall.fresh)) (x₁.toInCall.keep b o e)
    · obtain ⟨o, e, d⟩ := x₁.cell k c hc
      exact ⟨o, kk c o (Nat.ne_of_gt (x₁.above k c (mem_of_lookup hc))) e, d⟩
end
end Mine
end
section
open PySem PySem.W PySem.Calls PyProof.Rows
set_option maxRecDepth 100000
namespace Mine
section
variable {M : Model} {w : World} {A : Around} {s₀ s : Shared} {Q : Value → Shared → Prop} {E : Value → Shared → Prop} {env : Env} {m cm : Str → Option Value}
theorem storeC {n : Str} {v : Value} {c : Addr} {Q : Unit → Shared → Prop} (x : InCallC s₀ env.locals m env.cells cm s)
    (h : ∀ s', InCallC s₀ env.locals m env.cells (fun y => if y = n then some v else cm y) s' → (∀ b o, b ≠ c → s.heap.get? b = some o → s'.heap.get? b = some o) → Q () s') (hk : env.scope.kind = .function := by rfl) (hl : env.kindOf n = some .cell := by rfl)
    (hc : env.cells.lookup n = some c := by rfl) : wpAny M A (storeName env n v) Q E s := by
  have hcn := mem_of_lookup hc
  refine wpAny_storeName_cell hk hl hc (x.cell n c hc) fun h' hv hs => h _ ⟨⟨?_, ?_, fun b o e => ?_, x.toInCall.fresh⟩, fun k c' hc' => ?_, x.apart, x.above⟩ fun b o hb e => hs.extBut b o hb e
  · obtain ⟨h₁, tk, rfl⟩ := x.toInCall.same
    exact ⟨h', _, rfl⟩
  · exact x.toInCall.ns.extBut hs.extBut (Nat.ne_of_lt (x.above n c hcn))
  · exact hs.extBut b o (Nat.ne_of_lt (Nat.lt_trans (Nat.lt_of_lt_of_le (Heap.lt_size e) x.toInCall.fresh) (x.above n c hcn))) (x.toInCall.keep b o e)
  · by_cases hkn : k = n
    · subst hkn
      rw [hc] at hc'; cases hc'
      simpa using hv
    · have hne : c' ≠ c := fun q => hkn (name_of_addr x.apart (mem_of_lookup hc') (q ▸ hcn))
      have := (x.cell k c' hc').sameBut hs hne
      simpa [hkn] using this
theorem via {n : Int} {x : Sem Value} (h : wpAny M A x (fun v s' => (∃ t, v = .int n t) ∧ Keeps s s') E s) (k : ∀ t s', Keeps s s' → Q (.int n t) s') : wpAny M A x Q E s :=
  wpAny_mono h (fun v s' q => by obtain ⟨⟨t, rfl⟩, kk⟩ := q; exact k t s' kk) fun _ _ e => e
theorem listOne {e : Expr} {pos : Pos} (h : wpAny (MM w) A (eval e env) (fun v s₁ => ∀ D s', Keeps s₁ s' → s₁.heap.get? D = none → (∀ n t, v = .int n t → IsInts s'.heap D [n]) → Q (.ref D) s') E s) (he : starEach [e] env = (false, eval e env) :: starEach [] env := by rfl) : wpAny (MM w) A (eval (.List [e] pos) env) Q E s :=
  wpAny_List_spliced (arg (wpAny_mono h (fun v s₁ q => argEnd ⟨by show 1 ≤ _; decide, q _ _ (Keeps.push _ _) (not_old (fun _ _ e => e) (Nat.le_refl _)) fun n t e => by subst e; exact IsInts.new _ (.cons _ _ .nil)⟩) fun _ _ e => e) he)
theorem subTup {value slice : Expr} {pos : Pos} (h : wpAny (MM w) A (eval value env) (fun o s₁ => wpAny (MM w) A (eval slice env) (fun i s₂ => ∃ l items k t y, o = .ref l ∧ i = .int k t ∧ s₂.heap.IsTuple l items ∧ 0 ≤ k ∧ k < 1000 ∧ items[k.toNat]? = some y ∧ Q y s₂) E s₁) E s)
    (hs : ∀ o i, subscripted slice false o i = operate [o, i] (getItem o i) := by intro _ _; rfl) : wpAny (MM w) A (eval (.Subscript value slice pos) env) Q E s := by
  refine Subscript_ (wpAny_mono h (fun o s₁ h₁ => wpAny_mono h₁ (fun i s₂ h₂ => ?_) fun _ _ e => e) fun _ _ e => e)
  obtain ⟨l, items, k, t, y, rfl, rfl, hl, h0, h1, hn, hq⟩ := h₂
  have hlt : k.toNat < items.size := (Array.getElem?_eq_some_iff.mp hn).1
  exact tail_any hl.typeIs F.slot_tuple_getitem.lookup (PyProof.Rows.getItem_tuple (j := k.toNat) hl (by omega) (by omega) (by unfold seqIndex?; simp; omega) hn hq) (hs _ _)
end
def starts : List Int := [5, 3, 19, 14, 6]
def totalsOf (ns : List Int) : List Int := (upto 5).map fun k => starts.getD k.toNat 0 + (pickNums ns (some k) none (some 5)).sum
def startsV (t : Nat) : List Value := [.int 5 t, .int 3 (t + 1), .int 19 (t + 1 + 1), .int 14 (t + 1 + 1 + 1), .int 6 (t + 1 + 1 + 1 + 1)]
set_option maxHeartbeats 1000000 in
theorem drawn_c {w : World} {A : Around} {s : Shared} {Q : Value → Shared → Prop} {E : Value → Shared → Prop} {l : Addr} {ns : List Int} (T : TopOk s.heap) (hA : Ok A 3) (hl : IsInts s.heap l ns) (hn : ns.length ≤ 1000)
    (h : ∀ D s' r0 rs, Keeps s s' → 1 ≤ r0 → r0 ≤ 12 → rs.length = 4 → (∀ r ∈ rs, (0 ≤ r ∧ r ≤ 12) ∨ r = 127) → IsInts s'.heap D (r0 :: rs ++ [0]) → Q (.ref D) s') : wpAny (MM w) A (call (.ref 56) [.ref l]) Q E s := by
  refine enter (k := 11) (c := 55) (binds := [("script", .ref l)]) T hA rfl (fun _ _ => rfl) (fun N x hx => ?_) ⟨rfl, rfl, rfl⟩ fun s₁ x => ?_
  · rcases List.mem_cons.mp hx with rfl | hx
    · exact .inr ⟨rfl, rfl⟩
    · cases hx
  · have hA' : Ok (A.deeper (envK 11 55 56 s.heap.objs.size)) 2 := hA.deeper
    refine wpAny_execs_cons (wpAny_Assign_Name (wpAny_Tuple_spliced ?_))
    refine arg (wpAny_Constant_int (arg (wpAny_Constant_int (arg (wpAny_Constant_int (arg (wpAny_Constant_int (arg (wpAny_Constant_int (argEnd ⟨by show 5 ≤ _; decide, ?_⟩))))))))))
    have k₂ : Keeps s₁ { s₁ with heap := s₁.heap.push { cls := .type "tuple", data := .seq (startsV s₁.toks).toArray }, toks := s₁.toks + 1 + 1 + 1 + 1 + 1 } := Keeps.mk fun b o e => Heap.get?_push_of_some _ e
    have ht₂ : (s₁.heap.push { cls := .type "tuple", data := .seq (startsV s₁.toks).toArray }).IsTuple s₁.heap.objs.size (startsV s₁.toks).toArray := ⟨_, Heap.get?_push_size _ rfl, rfl, 0, rfl⟩
    have x₂ := stepC x k₂
    have hlt := (x.cell "starts" _ rfl).lt
    refine storeC x₂ fun s₃ x₃ k₃ => ?_
    have T₃ := topC x₃ T
    have ht₃ : s₃.heap.IsTuple s₁.heap.objs.size (startsV s₁.toks).toArray := by
      obtain ⟨o, e, r⟩ := ht₂
      exact ⟨o, k₃ _ o (Nat.ne_of_gt hlt) e, r⟩
    have hl₃ := hl.keeps (keptC x₃)
    refine wpAny_execs_cons (setCompRange (pz := fun _ => true) (f := fun k => starts.getD k.toNat 0 + (pickNums ns (some k) none (some 5)).sum) hA'.hh (callTy T₃ rfl (arg (wpAny_Constant_int (argEnd (rangeInts1 fun r u v s₄ k₄ hr => ⟨r, 5, u, _, v, rfl, hr, by omega, stepC x₃ (Keeps.trans (Keeps.tok s₃ _) k₄), ?_, ?_, ?_⟩))))) rfl rfl rfl rfl (by decide) rfl (by decide) rfl)
    · intro C i t s₅ m₅ E' hi hns hm hk
      exact wpAny_pure ⟨rfl, Keeps.refl _⟩
    · intro C i t s₅ m₅ E' hi _ hns hm hk
      have x₄ := stepC x₃ (Keeps.trans (Keeps.tok s₃ (s₃.toks + 1)) k₄)
      have hk3 : ∀ b o, s₃.heap.get? b = some o → s₅.heap.get? b = some o := fun b o e => hk b o (Keeps.get k₄ e)
      have T₅ : TopOk s₅.heap := T₃.keep (KeepH.of hk3)
      have cs := (x₃.cell "script" _ rfl).keeps hk3
      have ct := (x₃.cell "starts" _ rfl).keeps hk3
      have ht₅ : s₅.heap.IsTuple s₁.heap.objs.size (startsV s₁.toks).toArray := by
        obtain ⟨o, e, r⟩ := ht₃
        exact ⟨o, hk3 _ o e, r⟩
      have hst : ∃ tk, (startsV s₁.toks).toArray[((i : Int)).toNat]? = some (.int (starts.getD (i : Int).toNat 0) tk) := by
        rcases i with _ | _ | _ | _ | _ | i
        · exact ⟨_, rfl⟩
        · exact ⟨_, rfl⟩
        · exact ⟨_, rfl⟩
        · exact ⟨_, rfl⟩
        · exact ⟨_, rfl⟩
        · omega
      obtain ⟨tk, hst⟩ := hst
      refine wpAny_BinOp (subTup (compC ct (compL hns hm ⟨_, _, i, t, _, rfl, rfl, ht₅, by omega, by omega, hst, ?_⟩)))
      refine callBu T₅ rfl (arg (sliceInts (ops := fun o i => [o, i]) (fun _ _ => rfl) (compC cs (wpAny_evalPart_some (compL hns hm (wpAny_evalPart_none (wpAny_evalPart_some (wpAny_Constant_int ⟨l, ns, some i, none, some 5, _, rfl, hl₃.keep hk3, by omega, .int _ _, .none, .int _ _, by decide, fun xs hx => hx.pick _ _ _, fun D s₆ k₆ _ hD => ?_⟩))))))))
      refine argEnd (sumInts hA'.hh hD fun t' s₇ k₇ => add_int ⟨⟨_, rfl⟩, ?_⟩)
      exact Keeps.trans (Keeps.trans (Keeps.tok s₅ _) k₆) (Keeps.trans k₇ (Keeps.tok s₇ _))
    · intro D s₅ x₅ k₅ hD
      have T₅ := topC x₅ T
      have hlen : (((upto 5).filter fun _ => true).map fun k => starts.getD k.toNat 0 + (pickNums ns (some k) none (some 5)).sum).length = 5 := by rw [List.length_map]; rfl
      generalize (((upto 5).filter fun _ => true).map fun k => starts.getD k.toNat 0 + (pickNums ns (some k) none (some 5)).sum) = tots at hD hlen
      obtain ⟨a, rest, rfl⟩ : ∃ a rest, tots = a :: rest := by
        cases tots with
        | nil => simp at hlen
        | cons a rest => exact ⟨a, rest, rfl⟩
      have hr : rest.length = 4 := by simpa using hlen
      have hf : rest.filter (fun _ => true) = rest := List.filter_eq_self.mpr fun _ _ => rfl
      refine wpAny_execs_cons (wpAny_Return_some (wpAny_BinOp (wpAny_BinOp (listOne (via (n := 1 + a.fmod 12) ?_ fun ta s₆ k₆ D₁ s₇ k₇ _ hD₁' => ?_)))))
      · refine wpAny_BinOp (wpAny_Constant_int (wpAny_BinOp (subInts (nameL (stepC x₅ (Keeps.tok s₅ _)) rfl (wpAny_Constant_int ⟨D, _, 0, _, a, rfl, rfl, hD, by omega, by omega, rfl, fun ua => ?_⟩)))))
        refine wpAny_Constant_int (mod_int' (by decide) (add_int ⟨⟨_, rfl⟩, ⟨_, _, rfl, fun _ _ e => e⟩⟩))
      have hD₁ := hD₁' _ _ rfl
      rw [Int.fmod_eq_emod_of_nonneg _ (by decide)] at hD₁
      have k₅₇ := Keeps.trans k₆ k₇
      have x₇ := stepC x₅ k₅₇
      have hD₇ := hD.keeps k₅₇
      refine compList (pz := fun _ => true) (f := fun t => if t % 14 = 13 then 127 else t % 14) hA'.hh (sliceInts (ops := fun o i => [i, o]) (fun _ _ => rfl) (nameL x₇ rfl (wpAny_evalPart_some (wpAny_Constant_int (wpAny_evalPart_none (wpAny_evalPart_none ⟨D, _, some 1, none, none, rest, rfl, hD₇, by rw [hlen]; omega, .int _ _, .none, .none, nofun, fun xs hx => pick_from 1 hx, fun D₂ s₈ k₈ _ hD₂ => ⟨D₂, rest, rfl, hD₂, by simp at hlen; omega, ?_, ?_, ?_⟩⟩)))))) rfl (by decide) rfl (by decide) rfl
      · intro C n t s₉ m₉ E' _ hns hm hk
        exact wpAny_pure ⟨rfl, Keeps.refl _⟩
      · intro C n t s₉ m₉ E' _ _ hns hm hk
        have hmod : n.fmod 14 = n % 14 := Int.fmod_eq_emod_of_nonneg _ (by decide)
        refine wpAny_IfExp (wpAny_isTrue_Compare1 (wpAny_BinOp (compL hns hm (wpAny_Constant_int (mod_int' (by decide) (wpAny_Constant_int (eq_int (wpAny_truthy_bool ?_))))))))
        rw [hmod]
        by_cases hz : n % 14 = 13
        · rw [hz]
          show if (13 == 13 : Bool) = true then _ else _
          rw [if_pos (by decide)]
          exact wpAny_Constant_int ⟨⟨_, by rw [if_pos rfl]⟩, ⟨_, _, rfl, fun _ _ e => e⟩⟩
        · have hz' : (n % 14 == 13) = false := by simpa using hz
          rw [hz']
          show if false = true then _ else _
          rw [if_neg (by decide)]
          rw [if_neg hz, ← hmod]
          exact wpAny_BinOp (compL hns hm (wpAny_Constant_int (mod_int' (by decide) ⟨⟨_, rfl⟩, ⟨_, _, rfl, fun _ _ e => e⟩⟩)))
      · intro D₃ s₉ k₉ _ hD₃
        have kk := Keeps.trans (Keeps.tok s₇ (s₇.toks + 1)) (Keeps.trans k₈ k₉)
        refine addInts (hD₁.keeps kk) hD₃ (by simp) (by rw [List.length_map, hf]; omega) fun D₄ s₁₀ k₁₀ _ hD₄ => ?_
        refine listOne (via (n := 0) (wpAny_Constant_int ⟨⟨_, rfl⟩, ⟨_, _, rfl, fun _ _ e => e⟩⟩) fun t0 s₁₁ k₁₁ D₅ s₁₂ k₁₂ _ hD₅' => ?_)
        have hD₅ := hD₅' _ _ rfl
        refine addInts (hD₄.keeps (Keeps.trans k₁₁ k₁₂)) hD₅ (by rw [List.length_append, List.length_map, hf]; simp; omega) (by simp) fun D₆ s₁₃ k₁₃ _ hD₆ => ?_
        refine h D₆ s₁₃ (1 + a % 12) ((rest.filter fun _ => true).map fun t => if t % 14 = 13 then 127 else t % 14) (Keeps.trans (keptC x₇) (Keeps.trans kk (Keeps.trans k₁₀ (Keeps.trans (Keeps.trans k₁₁ k₁₂) k₁₃)))) (by omega) (by omega) (by rw [List.length_map, hf]; exact hr) (fun r hr => ?_) ?_
        · obtain ⟨t, _, rfl⟩ := List.mem_map.mp hr
          split <;> omega
        · simpa using hD₆
end Mine
end
section
open PySem PySem.W PySem.Calls PyProof.Rows
set_option maxRecDepth 100000
namespace Mine
section
variable {w : World} {A : Around} {s : Shared} {Q : Value → Shared → Prop} {E : Value → Shared → Prop} {env : Env}
theorem minInts {l : Addr} {ns : List Int} (hh : A.handled = none) (hl : IsInts s.heap l ns) (hne : ns ≠ []) (h : ∀ M t s', Keeps s s' → M ∈ ns → (∀ a ∈ ns, M ≤ a) → Q (.int M t) s') : wpAny (MM w) A (call (.builtin "min") [.ref l]) Q E s := by
  obtain ⟨vs, hl', hi⟩ := hl.list
  obtain ⟨xs, hxs⟩ := hi.allInts.items
  rw [hxs] at hl'
  have e : ns = xs.toList.map (·.1) := by
    have h1 := hi.numsOf
    have h2 : numsOf (intItems xs).toList = xs.toList.map (·.1) := nums_intItems xs
    rw [← hxs] at h2
    rw [← h1, ← h2]
  subst e
  have hsz : 0 < xs.size := by
    cases q : xs.size with
    | zero =>
      exact absurd (by simp [Array.size_eq_zero_iff.mp q]) hne
    | succ _ => omega
  refine min_intList hh hl' hsz fun v h' tk hv hk => ?_
  obtain ⟨t, rfl⟩ := intItems_at hv
  obtain ⟨h1, h2⟩ := argBest_lt (numAt xs) (xs.size - 1)
  refine h _ t _ (Keeps.mk (t := tk) hk) ?_ fun a ha => ?_
  · rw [numAt_eq]; exact getD_mem (by rw [List.length_map, Array.length_toList]; omega)
  · obtain ⟨j, hj, rfl⟩ := mem_getD ha
    rw [List.length_map, Array.length_toList] at hj
    rw [← numAt_eq]; exact h2 j (by omega)
end
def toldAt (R : List Int) (e : Nat) : List Int := (R.take e ++ (if R.getD e 0 = 0 then (List.replicate 10 ((R.drop (e - 1)).take (e - (e - 1)))).flatten else [])).take 10
set_option maxHeartbeats 1000000 in
theorem told_c {w : World} {A : Around} {s : Shared} {Q : Value → Shared → Prop} {E : Value → Shared → Prop} {l : Addr} {R : List Int} (T : TopOk s.heap) (hA : Ok A 3) (hl : IsInts s.heap l R) (hn : R.length = 6) (h0 : R.getD 0 0 ≠ 0 ∧ R.getD 0 0 ≠ 127) (h5 : R.getD 5 0 = 0)
    (h : ∀ D s' (e : Nat), Keeps s s' → 1 ≤ e → e ≤ 5 → (R.getD e 0 = 0 ∨ R.getD e 0 = 127) → (∀ k, k < e → R.getD k 0 ≠ 0 ∧ R.getD k 0 ≠ 127) → IsInts s'.heap D (toldAt R e) → Q (.ref D) s') : wpAny (MM w) A (call (.ref 68) [.ref l]) Q E s := by
  refine enter (k := 13) (c := 67) (binds := [("row", .ref l)]) T hA rfl (fun _ _ => rfl) (fun N x hx => ?_) ⟨rfl, rfl, rfl⟩ fun s₁ x => ?_
  · rcases List.mem_cons.mp hx with rfl | hx
    · exact .inr ⟨rfl, rfl⟩
    · cases hx
  · have hA' : Ok (A.deeper (envK 13 67 68 s.heap.objs.size)) 2 := hA.deeper
    have T₁ := topC x T
    have hl₁ := hl.keeps (keptC x)
    refine wpAny_execs_cons (wpAny_Assign_Name (callBu T₁ rfl (arg ?_)))
    refine compRange (pz := fun k => R.getD k.toNat 0 == 0 || R.getD k.toNat 0 == 127) (f := id) hA'.hh (callTy T₁ rfl (arg (wpAny_Constant_int (argEnd (rangeInts1 fun r u v s₄ k₄ hr => ⟨r, 6, u, _, v, rfl, hr, by omega, ?_, ?_, ?_⟩))))) rfl (by decide) rfl (by decide) rfl
    · intro C i t s₅ m₅ E' hi hns hm hk
      have hk1 : ∀ b o, s₁.heap.get? b = some o → s₅.heap.get? b = some o := fun b o e => hk b o (Keeps.get k₄ e)
      have hg : R[(i : Int).toNat]? = some (R.getD (i : Int).toNat 0) := by simp [hn, hi]
      refine wpAny_tests_one (wpAny_isTrue_Compare1 (subInts (compC ((x.cell "row" _ rfl).keeps hk1) (compL hns hm ⟨l, R, i, t, _, rfl, rfl, hl₁.keep hk1, by omega, by omega, hg, fun u' => ?_⟩))))
      refine wpAny_Tuple_spliced (arg (wpAny_Constant_int (arg (wpAny_Constant_int (argEnd ⟨two_le, ?_⟩)))))
      refine SeqAt.in_tupleAt (fun y => numOf y == R.getD (i : Int).toNat 0) ⟨_, Heap.get?_push_size _ rfl, rfl, 0, rfl⟩ (fun y hy => ?_) (wpAny_truthy_bool ⟨?_, ?_⟩)
      · simp only [List.mem_toArray] at hy
        rcases List.mem_cons.mp hy with rfl | hy
        · exact SeqAt.EqAt.int_int _ _ _ _
        · rw [List.mem_singleton.mp hy]
          exact SeqAt.EqAt.int_int _ _ _ _
      · simp only [List.any_toArray, List.any_cons, List.any_nil, Bool.or_false]
        show ((0 : Int) == _ || (127 : Int) == _) = _
        rw [Bool.beq_comm (a := (0 : Int)), Bool.beq_comm (a := (127 : Int))]
      · exact ⟨_, _, rfl, fun _ _ e => Heap.get?_push_of_some _ e⟩
    · intro C i t s₅ m₅ E' _ _ hns hm hk
      exact compL hns hm ⟨⟨_, rfl⟩, Keeps.refl _⟩
    · intro D s₅ k₅ _ hD
      rw [List.map_id] at hD
      have h5m : (5 : Int) ∈ (upto 6).filter fun k => R.getD k.toNat 0 == 0 || R.getD k.toNat 0 == 127 := by
        refine List.mem_filter.mpr ⟨by decide, ?_⟩
        show (R.getD 5 0 == 0 || _) = true
        rw [h5]; rfl
      have hk1 := Keeps.trans (Keeps.trans (Keeps.tok s₁ _) k₄) k₅
      refine argEnd (minInts hA'.hh hD (List.ne_nil_of_mem h5m) fun M t s₆ k₆ hM hmin => ?_)
      obtain ⟨hM1, hM2⟩ := List.mem_filter.mp hM
      have hMr := mem_upto hM1
      have hM5 := hmin 5 h5m
      obtain ⟨e, rfl⟩ : ∃ e : Nat, M = e := ⟨M.toNat, by omega⟩
      have hz : R.getD e 0 = 0 ∨ R.getD e 0 = 127 := by simpa using hM2
      have hbef : ∀ k, k < e → R.getD k 0 ≠ 0 ∧ R.getD k 0 ≠ 127 := by
        intro k hk
        refine ⟨fun q => ?_, fun q => ?_⟩
        · have := hmin k (List.mem_filter.mpr ⟨List.mem_map.mpr ⟨k, List.mem_range.mpr (by omega), rfl⟩, by show (R.getD k 0 == 0 || R.getD k 0 == 127) = true; rw [q]; rfl⟩)
          omega
        · have := hmin k (List.mem_filter.mpr ⟨List.mem_map.mpr ⟨k, List.mem_range.mpr (by omega), rfl⟩, by show (R.getD k 0 == 0 || R.getD k 0 == 127) = true; rw [q]; rfl⟩)
          omega
      have he1 : 1 ≤ e := by
        rcases Nat.eq_zero_or_pos e with rfl | q
        · rcases hz with q | q
          · exact absurd q h0.1
          · exact absurd q h0.2
        · exact q
      have he5 : e ≤ 5 := by omega
      have k₁₆ := Keeps.trans hk1 k₆
      have x₆ := stepC x k₁₆
      refine storeL x₆ fun s₇ x₇ k₇ _ => ?_
      have hl₇ := hl.keeps (keptC x₇)
      have hlt : e < R.length := by omega
      have hg : R[((e : Int)).toNat]? = some (R.getD e 0) := by simp only [Int.toNat_natCast, List.getD, List.getElem?_eq_getElem hlt, Option.getD_some]
      refine wpAny_execs_cons (wpAny_Assign_Name (wpAny_IfExp (wpAny_isTrue_Compare1 (subInts (nameC x₇ rfl (nameL x₇ rfl ⟨l, R, e, t, _, rfl, rfl, hl₇, by omega, by omega, hg, fun u' => wpAny_Constant_int (eq_int (wpAny_truthy_bool ?_))⟩))))))
      have x₈ := stepC x₇ (Keeps.tok s₇ (s₇.toks + 1))
      -- both roads lead to a list
      have tail : ∀ (s₉ : Shared) (D₁ : Addr) (ag : List Int), Keeps s₇ s₉ → ag.length ≤ 10 → IsInts s₉.heap D₁ ag → ag = (if R.getD e 0 = 0 then (List.replicate 10 ((R.drop (e - 1)).take (e - (e - 1)))).flatten else []) →
          wpAny (MM w) (A.deeper (envK 13 67 68 s.heap.objs.size)) (storeName (envK 13 67 68 s.heap.objs.size) "again" (.ref D₁)) (fun _ s' => wpAny (MM w) (A.deeper (envK 13 67 68 s.heap.objs.size)) (execs ((fnBody 13).drop 2) (envK 13 67 68 s.heap.objs.size)) (fun f s' => Q (match f with | .ret v => v | _ => .none) s') (fun _ _ => False) s') (fun _ _ => False) s₉ := by
        intro s₉ D₁ ag k₉ hag hD₁ hagE
        have x₉ := stepC x₇ k₉
        refine storeL x₉ fun s₁₀ x₁₀ k₁₀ _ => ?_
        have hl₁₀ := hl.keeps (keptC x₁₀)
        have hD₁' := hD₁.locals x₉.toInCall.ns k₁₀
        refine wpAny_execs_cons (wpAny_Return_some (sliceInts (ops := fun o i => [i, o]) (fun _ _ => rfl) (wpAny_BinOp (sliceInts (ops := fun o i => [i, o]) (fun _ _ => rfl) (nameC x₁₀ rfl (wpAny_evalPart_none (wpAny_evalPart_some (nameL x₁₀ rfl (wpAny_evalPart_none ⟨l, R, none, some (e : Int), none, R.take e, rfl, hl₁₀, by omega, .none, .int _ _, .none, nofun, fun xs hx => pick_upto e hx, fun D₂ s₁₁ k₁₁ _ hD₂ => ?_⟩)))))))))
        have x₁₁ := stepC x₁₀ k₁₁
        refine nameL x₁₁ rfl (addInts hD₂ (hD₁'.keeps k₁₁) (by simp; omega) (by omega) fun D₃ s₁₂ k₁₂ _ hD₃ => ?_)
        refine wpAny_evalPart_none (wpAny_evalPart_some (wpAny_Constant_int (wpAny_evalPart_none ⟨D₃, _, none, some 10, none, (R.take e ++ ag).take 10, rfl, hD₃, by simp; omega, .none, .int _ _, .none, nofun, fun xs hx => pick_upto 10 hx, fun D₄ s₁₃ k₁₃ _ hD₄ => ?_⟩)))
        refine h D₄ s₁₃ e (Keeps.trans (keptC x₁₁) (Keeps.trans k₁₂ (Keeps.trans (Keeps.tok s₁₂ _) k₁₃))) he1 he5 hz hbef ?_
        unfold toldAt
        rw [← hagE]
        exact hD₄
      by_cases hzz : R.getD e 0 = 0
      · rw [hzz]
        show if (0 == 0 : Bool) = true then _ else _
        rw [if_pos (by decide)]
        refine wpAny_BinOp (sliceInts (ops := fun o i => [i, o]) (fun _ _ => rfl) (nameC x₈ rfl (wpAny_evalPart_some (wpAny_BinOp (nameL x₈ rfl (wpAny_Constant_int (sub_int (wpAny_evalPart_some (nameL (stepC x₈ ⟨_, _, rfl, fun _ _ e => e⟩) rfl (wpAny_evalPart_none ⟨l, R, some ((e - 1 : Nat) : Int), some (e : Int), none, (R.drop (e - 1)).take (e - (e - 1)), rfl, hl₇, by omega, ?_, .int _ _, .none, nofun, fun xs hx => ?_, fun D₂ s₉ k₉ _ hD₂ => ?_⟩))))))))))
        · rw [show ((e : Int) - 1) = ((e - 1 : Nat) : Int) by omega]
          exact .int _ _
        · rw [slicePick_run _ _ _ (by simp [hx.length, hn]; omega) (by omega)]
          exact (hx.drop _).take _
        · have k₇₉ : Keeps s₇ s₉ := Keeps.trans ⟨_, _, rfl, fun _ _ e => e⟩ k₉
          refine wpAny_Constant_int (mulInts (hD₂.keeps (Keeps.tok s₉ _)) (by simp; omega) (by decide) (by decide) fun D₃ s₁₀ k₁₀ _ hD₃ => ?_)
          refine tail s₁₀ D₃ _ (Keeps.trans k₇₉ (Keeps.trans (Keeps.tok s₉ _) k₁₀)) ?_ hD₃ (by rw [if_pos hzz]; rfl)
          show (List.replicate 10 _).flatten.length ≤ 10
          simp
          omega
      · have hz' : (R.getD e 0 == 0) = false := by simpa using hzz
        rw [hz']
        show if false = true then _ else _
        rw [if_neg (by decide)]
        refine wpAny_List_spliced (argEnd ⟨by decide, ?_⟩)
        exact tail _ _ [] (Keeps.trans (Keeps.tok s₇ (s₇.toks + 1)) (Keeps.push _ _)) (by simp) (IsInts.new _ .nil) (by rw [if_neg hzz])
end Mine
end
section
open PySem PySem.W PySem.Calls PyProof.Rows
set_option maxRecDepth 100000
namespace Mine
section
variable {w : World} {A : Around} {s : Shared} {Q : Value → Shared → Prop} {E : Value → Shared → Prop} {env : Env}
theorem sortedInts {l : Addr} {ns : List Int} (hl : IsInts s.heap l ns) (hn : ns.length < 64) (h : ∀ D s' ns', Keeps s s' → s.heap.get? D = none → IsInts s'.heap D ns' → ns'.Perm ns → ns'.Pairwise (· ≤ ·) → Q (.ref D) s') : wpAny (MM w) A (call (.builtin "sorted") [.ref l]) Q E s := by
  obtain ⟨vs, hl', hi⟩ := hl.list
  refine sorted_ints hl' hi (by rw [hi.length]; exact hn) fun out ns' hi' hp hs => ?_
  refine h _ _ ns' ?_ (not_old (fun _ _ e => e) (Nat.le_succ _)) ?_ hp hs
  · exact ⟨_, s.toks, rfl, fun b o e => sortedAll_old e⟩
  · obtain ⟨e, q⟩ := sortedAll_at s.heap vs out
    exact IsInts.of_plain ⟨e, q⟩ hi'
theorem extendInts {o e : Expr} {apos pos : Pos}
    (h : wpAny (MM w) A (eval o env) (fun ov s₁ => ∃ l, ov = .ref l ∧ (∃ ns, IsInts s₁.heap l ns) ∧ wpAny (MM w) A (eval e env) (fun v s₂ => ∃ b ns ms, v = .ref b ∧ IsInts s₂.heap l ns ∧ IsInts s₂.heap b ms ∧ ns.length < 10000 ∧ ms.length < 10000 ∧ ∀ s', Ch [] [l] s₂ s' → IsInts s'.heap l (ns ++ ms) → Q .none s') E s₁) E s)
    (hbase : attributeBase o "extend" env (eval o env) = eval o env := by rfl) (hline : (apos.endLine == pos.line) = true := by rfl) (htrees : backTo pos (starEach [e] env) = [(false, eval e env)] := by rfl) :
    wpAny (MM w) A (eval (.Call (.Attribute o "extend" apos) [e] [] pos) env) Q E s := by
  refine wpAny_Call_method1_late hbase hline htrees (wpAny_mono h (fun ov s₁ q => ?_) fun _ _ e => e)
  obtain ⟨l, rfl, ⟨ns, vs, n, hl, hi⟩, hq⟩ := q
  refine ⟨"list", _, F.plainAttrs_list, F.slot_list_extend, F.type_list_extend, ⟨_, hl, rfl⟩, fun a h => ?_, ?_⟩
  · cases h
    exact ⟨_, hl, rfl⟩
  · refine P.extend_list (wpAny_mono hq (fun v s₂ q => ?_) fun _ _ e => e)
    obtain ⟨b, ns, ms, rfl, ⟨vs, n, hl, hi⟩, ⟨vs', n', hl', hi'⟩, hn, hm, hq⟩ := q
    have l1 := hi.length
    have l2 := hi'.length
    refine ⟨b, _, _, n, n', ?_, ?_, ?_, rfl, hl, hl', hq _ (upd_ch _ _) (upd_ints hl _ ?_)⟩
    · rw [List.size_toArray, sizeLine_eq]; omega
    · rw [List.size_toArray, List.size_toArray, sizeLine_eq]; omega
    · simp [Builtin.List.listTooLong, sizeLine_eq]; intro _; omega
    · have := hi.append hi'
      simpa using this
end
/-- the kernel of a size, as a function -/
def kernF (d : Int) : Nat → Int → Int
  | 0, n => n
  | f + 1, n => if n % d = 0 then kernF d f (n / d) else n
def kern (d n : Int) : Int := kernF d n.toNat n
theorem kernF_eq {d : Int} (hd : 2 ≤ d) {k : Int} (hk : 0 < k) (hkd : k % d ≠ 0) : ∀ (e f : Nat), e ≤ f → kernF d f (k * d ^ e) = k
  | 0, 0, _ => by simp [kernF]
  | 0, f + 1, _ => by simp [kernF, hkd]
  | e + 1, f + 1, h => by
    have e1 : k * d ^ (e + 1) = (k * d ^ e) * d := by rw [Int.pow_succ, Int.mul_assoc]
    rw [kernF, e1, if_pos (Int.mul_emod_left ..), Int.mul_ediv_cancel _ (by omega)]
    exact kernF_eq hd hk hkd e f (by omega)
theorem lt_pow {d : Int} (hd : 2 ≤ d) : ∀ e : Nat, (e : Int) < d ^ e
  | 0 => by simp
  | e + 1 => by
    have h := lt_pow hd e
    have h2 : d ^ e * 2 ≤ d ^ e * d := Int.mul_le_mul_of_nonneg_left hd (by omega)
    rw [Int.pow_succ]
    omega
theorem IsKern.eq {d n k : Int} (hd : 2 ≤ d) (h : IsKern d n k) : k = kern d n := by
  obtain ⟨hk, hkd, e, rfl⟩ := h
  refine (kernF_eq hd hk hkd e _ ?_).symm
  have h1 : (e : Int) < d ^ e := lt_pow hd e
  have h2 : d ^ e ≤ k * d ^ e := by
    have : 1 * d ^ e ≤ k * d ^ e := Int.mul_le_mul_of_nonneg_right (by omega) (by omega)
    omega
  omega
end Mine
end
section
open PySem PySem.W PySem.Calls PyProof.Rows
set_option maxRecDepth 100000
namespace Mine
/-- the figures of left by d, as parts -/
def digs (d : Int) : Nat → Int → Int → List Int
  | 0, _, _ => []
  | f + 1, left, part => if 0 < left then List.replicate (left % d).toNat part ++ digs d f (left / d) (part * d) else []
def sumOf (d : Int) (S : List Int) (k : Int) : Int := (((upto S.length).filter fun j => (S.map (kern d)).getD j.toNat 0 == k).map fun j => S.getD j.toNat 0).sum
def dueAt (d : Int) (S : List Int) (k : Int) : List Int := digs d 200 (sumOf d S k / k) k
def dueUpto (d : Int) (S : List Int) : Nat → List Int
  | 0 => []
  | n + 1 => dueUpto d S n ++ dueAt d S ((n + 1 : Nat) : Int)
theorem dueUpto_mono (d : Int) (S : List Int) : ∀ {n m : Nat}, n ≤ m → (dueUpto d S n).length ≤ (dueUpto d S m).length := by
  intro n m h
  induction h with
  | refl => exact Nat.le_refl _
  | step _ ih => rw [dueUpto, List.length_append]; omega
theorem sum_bound : ∀ (l : List Int), (∀ x ∈ l, 0 ≤ x ∧ x ≤ 12) → 0 ≤ l.sum ∧ l.sum ≤ 12 * l.length
  | [], _ => by simp
  | x :: l, h => by
    have := sum_bound l fun y hy => h y (.tail _ hy)
    have := h x (.head _)
    simp only [List.sum_cons, List.length_cons]
    omega
theorem sumOf_bound {d : Int} {S : List Int} (k : Int) (hS : ∀ x ∈ S, 1 ≤ x ∧ x ≤ 12) (hl : S.length ≤ 10) : 0 ≤ sumOf d S k ∧ sumOf d S k ≤ 120 := by
  have h := sum_bound (((upto S.length).filter fun j => (S.map (kern d)).getD j.toNat 0 == k).map fun j => S.getD j.toNat 0) fun x hx => by
    obtain ⟨j, hj, rfl⟩ := List.mem_map.mp hx
    have hj' := mem_upto (List.mem_filter.mp hj).1
    have hlt : j.toNat < S.length := by omega
    have e : S.getD j.toNat 0 = S[j.toNat] := by simp [hlt]
    have := hS _ (e ▸ List.getElem_mem hlt)
    omega
  have l1 : (((upto S.length).filter fun j => (S.map (kern d)).getD j.toNat 0 == k).map fun j => S.getD j.toNat 0).length ≤ 10 := by
    rw [List.length_map]
    refine Nat.le_trans (List.length_filter_le ..) ?_
    simp [upto]; exact hl
  unfold sumOf
  omega
theorem chC {s₀ s s' : Shared} {L : Addr} {m cm : Str → Option Value} {cs : List (Str × Addr)} {X : List Addr} (x : InCallC s₀ L m cs cm s) (c : Ch [] X s s') (h0 : ∀ b ∈ X, s₀.heap.get? b = none)
    (h1 : ∀ b ∈ X, ∃ o, s.heap.get? b = some o ∧ (∀ es n, o.data ≠ .dict es n) ∧ ∀ v, o.data ≠ .cell v) : InCallC s₀ L m cs cm s' := by
  have kp : ∀ b o, b ∉ X → s.heap.get? b = some o → s'.heap.get? b = some o := fun b o q e => c.get q List.not_mem_nil e
  obtain ⟨h', tk, rfl, k⟩ := c
  obtain ⟨h, t, rfl⟩ := x.toInCall.same
  refine ⟨⟨⟨h', tk, rfl⟩, ns_keep (fun o e => kp _ o (fun q => ?_) e) x.toInCall.ns, fun b o e => kp b o (fun q => ?_) (x.toInCall.keep b o e), x.toInCall.fresh⟩, fun n c hc => ?_, x.apart, x.above⟩
  · obtain ⟨o₂, e₂, hd, _⟩ := h1 _ q
    obtain ⟨o', es, ep, g1, g2, _⟩ := x.toInCall.ns
    rw [e₂] at g1; cases g1; exact hd _ _ g2
  · have := h0 b q
    rw [this] at e; cases e
  · obtain ⟨o, e, d⟩ := x.cell n c hc
    refine ⟨o, kp c o (fun q => ?_) e, d⟩
    obtain ⟨o₂, e₂, _, hc'⟩ := h1 _ q
    rw [e₂] at e; cases e; exact hc' _ d
theorem ints_plain {h : Heap} {l : Addr} {ns : List Int} (x : IsInts h l ns) : ∃ o, h.get? l = some o ∧ (∀ es n, o.data ≠ .dict es n) ∧ ∀ v, o.data ≠ .cell v := by
  obtain ⟨vs, n, e, _⟩ := x
  exact ⟨_, e, nofun, nofun⟩
theorem IsInts.cellSt {s s' : Shared} {c l : Addr} {v : Option Value} {ns : List Int} (x : IsInts s.heap l ns) (i : s.heap.IsCell c v) (k : ∀ b o, b ≠ c → s.heap.get? b = some o → s'.heap.get? b = some o) : IsInts s'.heap l ns := by
  refine x.keep1 fun o e => k _ _ ?_ e
  rintro rfl
  obtain ⟨o', e', d⟩ := i
  obtain ⟨vs, n, e'', _⟩ := x
  have e3 : s.heap.get? _ = some _ := e''
  rw [e3] at e'; cases e'; cases d
theorem riter_ns {s s' : Shared} {I L : Addr} {a b c : Int} {m : Str → Option Value} (x : IsRangeIter s.heap I a b c) (n : s.heap.Ns L m) (k : ∀ b o, b ≠ L → s.heap.get? b = some o → s'.heap.get? b = some o) : IsRangeIter s'.heap I a b c := by
  refine k I _ ?_ x
  rintro rfl
  obtain ⟨o', _, _, e', d', _⟩ := n
  have e3 : s.heap.get? _ = some _ := x
  rw [e3] at e'; cases e'; cases d'
theorem riter_cell {s s' : Shared} {I c : Addr} {a b cc : Int} {v : Option Value} (x : IsRangeIter s.heap I a b cc) (i : s.heap.IsCell c v) (k : ∀ b o, b ≠ c → s.heap.get? b = some o → s'.heap.get? b = some o) : IsRangeIter s'.heap I a b cc := by
  refine k I _ ?_ x
  rintro rfl
  obtain ⟨o', e', d⟩ := i
  have e3 : s.heap.get? _ = some _ := x
  rw [e3] at e'; cases e'; cases d

theorem rangeIter12 {w : World} {A : Around} {s : Shared} {Q : Value → Shared → Prop} {E : Value → Shared → Prop} {t u : Tok} (h : ∀ I s', Keeps s s' → s.heap.get? I = none → IsRangeIter s'.heap I (1 + (0 : Nat) * 1) ((12 : Nat) - (0 : Nat)) 1 → Q (.ref I) s') :
    wpAny (MM w) A (call (.type "range") [.int 1 t, .int 13 u]) (fun x s₁ => wpAny (MM w) A (pyIter x) Q E s₁) E s := by
  refine call_range_2 (wpAny_pyIter_range (Heap.get?_push_size _ rfl) (small_one (by omega) (by omega) (by omega) (by omega)) ?_)
  refine h _ _ (Keeps.mk fun b o e => Heap.get?_push_of_some _ (Heap.get?_push_of_some _ e)) (not_old (fun b o e => Heap.get?_push_of_some _ e) (Nat.le_refl _)) ?_
  exact Heap.get?_push_size _ rfl

set_option maxHeartbeats 2000000 in
theorem due_c {w : World} {A : Around} {s : Shared} {Q : Value → Shared → Prop} {E : Value → Shared → Prop} {l : Addr} {d : Nat} {u : Tok} {S : List Int} (hd : d = 2 ∨ d = 3) (T : TopOk s.heap) (hA : Ok A 3) (hl : IsInts s.heap l S) (hS : ∀ x ∈ S, 1 ≤ x ∧ x ≤ 12) (hn : S.length ≤ 10) (hlen : (dueUpto d S 12).length < 64)
    (h : ∀ D s' ns', Keeps s s' → s.heap.get? D = none → IsInts s'.heap D ns' → ns'.Perm (dueUpto d S 12) → ns'.Pairwise (· ≤ ·) → Q (.ref D) s') : wpAny (MM w) A (call (.ref 104) [.ref l, .int d u]) Q E s := by
  refine enter (k := 19) (c := 103) (binds := [("sizes", .ref l), ("d", .int d u)]) T hA rfl (fun _ _ => rfl) (fun N x hx => ?_) ⟨rfl, rfl, rfl⟩ fun s₁ x => ?_
  · rcases List.mem_cons.mp hx with rfl | hx
    · exact .inr ⟨rfl, rfl⟩
    · rcases List.mem_cons.mp hx with rfl | hx
      · exact .inr ⟨rfl, rfl⟩
      · cases hx
  · have hA' : Ok (A.deeper (envK 19 103 104 s.heap.objs.size)) 2 := hA.deeper
    have T₁ := topC x T
    have hl₁ := hl.keeps (keptC x)
    refine wpAny_execs_cons (wpAny_Assign_Name ?_)
    refine compList (pz := fun _ => true) (f := kern d) hA'.hh (nameC x rfl ⟨l, S, rfl, hl₁, by omega, ?_, ?_, ?_⟩) rfl (by decide) rfl (by decide) rfl
    · intro C n t s₂ m₂ E' _ hns hm hk
      exact wpAny_pure ⟨rfl, Keeps.refl _⟩
    · intro C n t s₂ m₂ E' hmem _ hns hm hk
      have T₂ : TopOk s₂.heap := T₁.keep (KeepH.of hk)
      have hb := hS n hmem
      refine callFn T₂ rfl (arg (compL hns hm (arg (compC ((x.cell "d" _ rfl).keeps hk) (argEnd ⟨T₂, kernel_c T₂ (hA'.less (by omega)) (by omega) (by omega) (by omega) fun k t' s₃ k₃ hk' => ⟨⟨t', ?_⟩, k₃⟩⟩)))))
      rw [hk'.eq (by omega)]
    · intro K s₂ k₂ hK0 hK
      have hfS : S.filter (fun _ => true) = S := List.filter_eq_self.mpr fun _ _ => rfl
      rw [hfS] at hK
      have K_s : s.heap.get? K = none := none_old (keptC x) hK0
      have x₂ := stepC x k₂
      refine storeC x₂ fun s₃ x₃ k₃ => ?_
      have hK₃ := hK.cellSt (x₂.cell "kernels" _ rfl) k₃
      refine wpAny_execs_cons (wpAny_Assign_Name (wpAny_List_spliced (argEnd ⟨by decide, ?_⟩)))
      have k₄ := Keeps.push s₃ { cls := .type "list", data := .seq ([] : List Value).toArray }
      have x₄ := stepC x₃ k₄
      have D_s : s.heap.get? s₃.heap.objs.size = none := not_old (fun b o e => Keeps.get (keptC x₃) e) (Nat.le_refl _)
      have hKD : K ≠ s₃.heap.objs.size := ne_old hK₃ (not_old (fun _ _ e => e) (Nat.le_refl _))
      have hD₄ : IsInts (s₃.heap.push { cls := .type "list", data := .seq ([] : List Value).toArray }) s₃.heap.objs.size [] := IsInts.new _ .nil
      have hK₄ := hK₃.keeps k₄
      generalize hs₄ : ({ s₃ with heap := s₃.heap.push { cls := .type "list", data := .seq ([] : List Value).toArray } } : Shared) = s₄ at *
      have hD₄' : IsInts s₄.heap s₃.heap.objs.size [] := by rw [← hs₄]; exact hD₄
      generalize s₃.heap.objs.size = D at *
      refine storeL x₄ fun s₅ x₅ k₅ _ => ?_
      have hK₅ := hK₄.locals x₄.toInCall.ns k₅
      have hD₅ := hD₄'.locals x₄.toInCall.ns k₅
      have T₅ := topC x₅ T
      refine wpAny_execs_cons (wpAny_For (callTy T₅ rfl (arg (wpAny_Constant_int (arg (wpAny_Constant_int (argEnd (rangeIter12 fun I s₆ k₆ hI0 hI => ?_))))))))
      have k₅₆ : Keeps s₅ s₆ := Keeps.trans ⟨_, _, rfl, fun _ _ e => e⟩ k₆
      have x₆ := stepC x₅ k₅₆
      have I_s : s.heap.get? I = none := none_old (Keeps.trans (keptC x₅) (⟨_, _, rfl, fun _ _ e => e⟩ : Keeps s₅ _)) hI0
      have hID : D ≠ I := ne_old hD₅ hI0
      have hIK : K ≠ I := ne_old hK₅ hI0
      have W := Walks.range (prog := P) (w := w) hA'.hh I 1 1 12
      have fresh1 : ∀ {b : Addr}, s.heap.get? b = none → ∀ z ∈ [b], s.heap.get? z = none := fun h => one (P := fun z => s.heap.get? z = none) h
      obtain ⟨Inv, hInv⟩ : ∃ Inv : Nat → Shared → Prop, ∀ j s', Inv j s' ↔ ∃ i m cm, j = 12 - i ∧ i ≤ 12 ∧ m "due" = some (.ref D) ∧ cm "sizes" = some (.ref l) ∧ cm "d" = some (.int d u) ∧ cm "kernels" = some (.ref K) ∧
        InCallC s (envK 19 103 104 s.heap.objs.size).locals m (envK 19 103 104 s.heap.objs.size).cells cm s' ∧ IsInts s'.heap D (dueUpto d S i) ∧ IsInts s'.heap K (S.map (kern d)) ∧ IsRangeIter s'.heap I (1 + (i : Nat) * 1) ((12 : Nat) - (i : Nat)) 1 := ⟨_, fun _ _ => Iff.rfl⟩
      refine codeAny_forLoop Inv ?_ 12 ((hInv _ _).mpr ⟨0, _, _, rfl, by omega, rfl, rfl, rfl, rfl, x₆, hD₅.keeps k₅₆, hK₅.keeps k₅₆, hI⟩)
      intro j s₇ hi₇
      obtain ⟨i, m, cm, rfl, hi12, md, cs, cd, ck, x₇, hD₇, hK₇, hI₇⟩ := (hInv _ _).mp hi₇
      clear hi₇
      have Ip : ∃ o, s₇.heap.get? I = some o ∧ (∀ es n, o.data ≠ .dict es n) ∧ ∀ v, o.data ≠ .cell v := ⟨_, hI₇, nofun, nofun⟩
      by_cases hlt : i < 12
      · refine W.item i s₇ _ _ hlt hI₇ fun v h' tk hv hI₈ hk₈ => gen2 fun R₁ F₁ hR₁ => ?_
        obtain ⟨tv, rfl⟩ := hv
        have c₈ : Ch [] [I] s₇ { s₇ with heap := h', toks := tk } := ⟨h', tk, rfl, fun b o q e => ⟨o.slots, hk₈ b o q e, fun _ => rfl⟩⟩
        generalize hs₈ : ({ s₇ with heap := h', toks := tk } : Shared) = s₈ at *
        have x₈ := chC x₇ c₈ (fresh1 I_s) (one (P := fun z => ∃ o, s₇.heap.get? z = some o ∧ (∀ es n, o.data ≠ .dict es n) ∧ ∀ v, o.data ≠ .cell v) Ip)
        have hD₈ := hD₇.ch c₈ (by simpa using hID) (by simp)
        have hK₈ := hK₇.ch c₈ (by simpa using hIK) (by simp)
        have hI₈' : IsRangeIter s₈.heap I (1 + ((i + 1 : Nat) : Int) * 1) ((12 : Nat) - ((i + 1 : Nat) : Int)) 1 := by rw [← hs₈]; exact hI₈
        have hker : (1 + (i : Int) * 1) = ((i + 1 : Nat) : Int) := by omega
        rw [hker]
        refine wpAny_assign_Name (storeC x₈ fun s₉ x₉ k₉ => hR₁ _ _ (gen2 fun R₂ F₂ hR₂ => ?_))
        clear hR₁
        have cc := x₈.cell "kernel" _ rfl
        have hD₉ := hD₈.cellSt cc k₉
        have hK₉ := hK₈.cellSt cc k₉
        have hI₉ := riter_cell hI₈' cc k₉
        have T₉ := topC x₉ T
        have hl₉ := hl.keeps (keptC x₉)
        have hsb := sumOf_bound (d := d) (k := ((i + 1 : Nat) : Int)) hS hn
        refine wpAny_execs_cons (wpAny_Assign_Name (wpAny_BinOp (callBu T₉ rfl (arg ?_))))
        refine compRange (pz := fun j => (S.map (kern d)).getD j.toNat 0 == ((i + 1 : Nat) : Int)) (f := fun j => S.getD j.toNat 0) hA'.hh (callTy T₉ rfl (arg (callBu T₉ rfl (arg (nameC x₉ cs (argEnd (lenInts hl₉ (by omega) fun t s₁₀ k₁₀ => argEnd (rangeInts1 fun r u v s₁₁ k₁₁ hr => ⟨r, S.length, u, t, v, rfl, hr, by omega, ?_, ?_, ?_⟩)))))))) rfl (by decide) rfl (by decide) rfl
        · intro C j t' s₁₂ m₁₂ E' hj hns hm hk
          have hk9 : ∀ b o, s₉.heap.get? b = some o → s₁₂.heap.get? b = some o := fun b o e => hk b o (Keeps.get k₁₁ (Keeps.get k₁₀ e))
          have ckn := (x₉.cell "kernels" _ rfl).keeps hk9
          have cke := (x₉.cell "kernel" _ rfl).keeps hk9
          have hg : (S.map (kern d))[(j : Int).toNat]? = some ((S.map (kern d)).getD (j : Int).toNat 0) := by
            have : j < (S.map (kern d)).length := by rw [List.length_map]; exact hj
            simp only [Int.toNat_natCast, List.getD, List.getElem?_eq_getElem this, Option.getD_some]
          refine wpAny_tests_one (wpAny_isTrue_Compare1 (subInts (compC (v := .ref K) (by rw [← ck]; exact ckn) (compL hns hm ⟨K, _, j, t', _, rfl, rfl, hK₉.keep hk9, by omega, by omega, hg, fun u' => ?_⟩))))
          exact compC cke (eq_int (wpAny_truthy_bool ⟨rfl, Keeps.refl _⟩))
        · intro C j t' s₁₂ m₁₂ E' hj _ hns hm hk
          have hk9 : ∀ b o, s₉.heap.get? b = some o → s₁₂.heap.get? b = some o := fun b o e => hk b o (Keeps.get k₁₁ (Keeps.get k₁₀ e))
          have csz := (x₉.cell "sizes" _ rfl).keeps hk9
          have hg : S[(j : Int).toNat]? = some (S.getD (j : Int).toNat 0) := by simp only [Int.toNat_natCast, List.getD, List.getElem?_eq_getElem hj, Option.getD_some]
          exact subInts (compC (v := .ref l) (by rw [← cs]; exact csz) (compL hns hm ⟨l, S, j, t', _, rfl, rfl, hl₉.keep hk9, by omega, by omega, hg, fun u' => ⟨⟨u', rfl⟩, Keeps.refl _⟩⟩))
        · intro D₂ s₁₂ k₁₂ _ hD₂
          refine argEnd (sumInts hA'.hh hD₂ fun ts s₁₃ k₁₃ => ?_)
          have k₉₁₃ := Keeps.trans (Keeps.trans k₁₀ k₁₁) (Keeps.trans k₁₂ k₁₃)
          have x₁₃ := stepC x₉ k₉₁₃
          have hfd : (sumOf d S ((i + 1 : Nat) : Int)).fdiv ((i + 1 : Nat) : Int) = sumOf d S ((i + 1 : Nat) : Int) / ((i + 1 : Nat) : Int) := Int.fdiv_eq_ediv_of_nonneg _ (by omega)
          refine nameC x₁₃ rfl (floordiv_int (a := sumOf d S ((i + 1 : Nat) : Int)) (by omega) ?_ (.inl (small_div (by omega) (by omega) (by omega) (by omega))))
          rw [hfd]
          have x₁₄ := stepC x₁₃ (Keeps.tok s₁₃ (s₁₃.toks + 1))
          refine storeL x₁₄ fun s₁₅ x₁₅ k₁₅ _ => ?_
          refine wpAny_execs_cons (wpAny_Assign_Name (nameC x₁₅ rfl (storeL x₁₅ fun s₁₆ x₁₆ k₁₆ _ => ?_)))
          have hD₁₆ := ((hD₉.keeps (Keeps.trans k₉₁₃ (Keeps.tok s₁₃ (s₁₃.toks + 1)))).locals x₁₄.toInCall.ns k₁₅).locals x₁₅.toInCall.ns k₁₆
          have hK₁₆ := ((hK₉.keeps (Keeps.trans k₉₁₃ (Keeps.tok s₁₃ (s₁₃.toks + 1)))).locals x₁₄.toInCall.ns k₁₅).locals x₁₅.toInCall.ns k₁₆
          have hI₁₆ : IsRangeIter s₁₆.heap I (1 + ((i + 1 : Nat) : Int) * 1) ((12 : Nat) - ((i + 1 : Nat) : Int)) 1 := riter_ns (riter_ns (Keeps.get (Keeps.trans k₉₁₃ (Keeps.tok s₁₃ (s₁₃.toks + 1))) hI₉) x₁₄.toInCall.ns k₁₅) x₁₅.toInCall.ns k₁₆
          have hq0 : 0 ≤ sumOf d S ((i + 1 : Nat) : Int) / ((i + 1 : Nat) : Int) := Int.ediv_nonneg hsb.1 (by omega)
          have hq1 : sumOf d S ((i + 1 : Nat) : Int) / ((i + 1 : Nat) : Int) ≤ sumOf d S ((i + 1 : Nat) : Int) := Int.ediv_le_self _ hsb.1
          refine wpAny_execs_cons (wpAny_While ?_)
          obtain ⟨Inw, hInw⟩ : ∃ Inw : Nat → Shared → Prop, ∀ f s', Inw f s' ↔ ∃ acc left part tl tp m, left.toNat ≤ f ∧ 0 ≤ left ∧ left ≤ 120 ∧ m "due" = some (.ref D) ∧ m "left" = some (.int left tl) ∧ m "part" = some (.int part tp) ∧
            InCallC s (envK 19 103 104 s.heap.objs.size).locals m (envK 19 103 104 s.heap.objs.size).cells (fun y => if y = "kernel" then some (.int ((i + 1 : Nat) : Int) tv) else cm y) s' ∧ IsInts s'.heap D acc ∧ IsInts s'.heap K (S.map (kern d)) ∧
            IsRangeIter s'.heap I (1 + ((i + 1 : Nat) : Int) * 1) ((12 : Nat) - ((i + 1 : Nat) : Int)) 1 ∧ acc ++ digs d f left part = dueUpto d S (i + 1) := ⟨_, fun _ _ => Iff.rfl⟩
          refine codeAny_whileLoop Inw ?_ 200 ((hInw _ _).mpr
            ⟨dueUpto d S i, sumOf d S ((i + 1 : Nat) : Int) / ((i + 1 : Nat) : Int), ((i + 1 : Nat) : Int), s₁₃.toks, tv, (fun y => if y = "part" then some (Value.int ((i + 1 : Nat) : Int) tv) else if y = "left" then some (Value.int (sumOf d S ((i + 1 : Nat) : Int) / ((i + 1 : Nat) : Int)) s₁₃.toks) else m y), by omega, hq0, by omega, md, rfl, rfl, x₁₆, hD₁₆, hK₁₆, hI₁₆, rfl⟩)
          clear x₉ x₁₃ x₁₄ x₁₅ x₁₆ hD₁₆ hK₁₆ hI₁₆ hD₉ hK₉ hI₉ T₉ hl₉ k₉₁₃ k₁₀ k₁₁ k₁₂ k₁₃ k₁₅ k₁₆ hD₂ x₇ x₈ hD₇ hK₇ hI₇ hI₈' hD₈ hK₈
          intro f s₁₇ hi₁₇
          obtain ⟨acc, left, part, tl, tp, m', hf, hl0, hl120, md', ml', mp', x₁₇, hD₁₇, hK₁₇, hI₁₇, hacc⟩ := (hInw _ _).mp hi₁₇
          clear hi₁₇
          refine wpAny_isTrue_Compare1 (nameL x₁₇ ml' (wpAny_Constant_int (gt_int (wpAny_truthy_bool ?_))))
          have x₁₈ := stepC x₁₇ (Keeps.tok s₁₇ (s₁₇.toks + 1))
          have hacclen : acc.length < 64 := by
            have h1 := congrArg List.length hacc
            rw [List.length_append] at h1
            have h2 := dueUpto_mono d S (show i + 1 ≤ 12 by omega)
            omega
          by_cases hpos : 0 < left
          · have hb : decide (left > 0) = true := decide_eq_true hpos
            show if decide (left > 0) = true then _ else _
            rw [if_pos hb]
            refine gen2 fun R₃ F₃ hR₃ => ?_
            obtain ⟨f, rfl⟩ : ∃ f', f = f' + 1 := ⟨f - 1, by omega⟩
            rw [digs, if_pos hpos] at hacc
            have hfm : left.fmod d = left % d := Int.fmod_eq_emod_of_nonneg _ (by omega)
            have hfd' : left.fdiv d = left / d := Int.fdiv_eq_ediv_of_nonneg _ (by omega)
            have hm0 : 0 ≤ left % (d : Int) := Int.emod_nonneg _ (by omega)
            have hm1 : left % (d : Int) < d := Int.emod_lt_of_pos _ (by omega)
            refine wpAny_execs_cons (wpAny_Expr (extendInts (nameL x₁₈ md' ⟨D, rfl, ⟨_, hD₁₇⟩, wpAny_BinOp (listOne (nameL x₁₈ mp' fun D₃ s₁₉ k₁₉ h30 hD₃' => ?_))⟩)))
            have hD₃ := hD₃' _ _ rfl
            have x₁₉ := stepC x₁₈ k₁₉
            refine wpAny_BinOp (nameL x₁₉ ml' (nameC x₁₉ cd (mod_int' (by omega) ?_)))
            rw [hfm]
            refine mulInts (hD₃.keeps (Keeps.tok s₁₉ (s₁₉.toks + 1))) (by simp) (by omega) (by omega) fun D₄ s₂₀ k₂₀ h40 hD₄ => ?_
            have kk := Keeps.trans (Keeps.tok s₁₇ (s₁₇.toks + 1)) (Keeps.trans k₁₉ (Keeps.trans (Keeps.tok s₁₉ (s₁₉.toks + 1)) k₂₀))
            have hrep : (List.replicate (left % (d : Int)).toNat [part]).flatten = List.replicate (left % (d : Int)).toNat part := by simp
            rw [hrep] at hD₄
            refine ⟨D₄, acc, _, rfl, hD₁₇.keeps kk, hD₄, by omega, by simp; omega, fun s₂₁ c₂₁ hD₂₁ => ?_⟩
            have x₂₀ := stepC x₁₇ kk
            have Dp := ints_plain (hD₁₇.keeps kk)
            have x₂₁ := chC x₂₀ c₂₁ (fresh1 D_s) (one (P := fun z => ∃ o, s₂₀.heap.get? z = some o ∧ (∀ es n, o.data ≠ .dict es n) ∧ ∀ v, o.data ≠ .cell v) Dp)
            have hK₂₁ := (hK₁₇.keeps kk).ch c₂₁ (by simpa using hKD) (by simp)
            have hI₂₁ : IsRangeIter s₂₁.heap I (1 + ((i + 1 : Nat) : Int) * 1) ((12 : Nat) - ((i + 1 : Nat) : Int)) 1 := c₂₁.get (by simpa using Ne.symm hID) (by simp) (Keeps.get kk hI₁₇)
            refine wpAny_execs_cons (wpAny_Assign_Name (wpAny_BinOp (nameL x₂₁ ml' (nameC x₂₁ cd (floordiv_int (by omega) ?_ (.inl (small_div (by omega) (by omega) (by omega) (by omega))))))))
            rw [hfd']
            have x₂₂ := stepC x₂₁ (Keeps.tok s₂₁ (s₂₁.toks + 1))
            refine storeL x₂₂ fun s₂₃ x₂₃ k₂₃ _ => ?_
            refine wpAny_execs_cons (wpAny_Assign_Name (wpAny_BinOp (nameL x₂₃ mp' (nameC x₂₃ cd (mul_int ?_ (IntMulOk.of_right (intBits_le_64 (by omega) (by omega))))))))
            have x₂₄ := stepC x₂₃ (Keeps.tok s₂₃ (s₂₃.toks + 1))
            refine storeL x₂₄ fun s₂₅ x₂₅ k₂₅ _ => wpAny_execs_nil ?_
            have hdl : left / (d : Int) < left := Int.ediv_lt_self_of_pos_of_ne_one hpos (by omega) |> fun h => h
            have hdl0 : 0 ≤ left / (d : Int) := Int.ediv_nonneg hl0 (by omega)
            refine hR₃ _ _ ⟨f, Nat.lt_succ_self _, (hInw _ _).mpr ⟨acc ++ List.replicate (left % (d : Int)).toNat part, left / d, part * d, s₂₁.toks, s₂₃.toks, (fun y => if y = "part" then some (Value.int (part * d) s₂₃.toks) else if y = "left" then some (Value.int (left / d) s₂₁.toks) else m' y), by omega, hdl0, by omega, md', rfl, rfl, x₂₅, ?_, ?_, ?_, ?_⟩⟩
            · exact ((hD₂₁.keeps (Keeps.tok s₂₁ (s₂₁.toks + 1))).locals x₂₂.toInCall.ns k₂₃ |>.keeps (Keeps.tok s₂₃ (s₂₃.toks + 1))).locals x₂₄.toInCall.ns k₂₅
            · exact ((hK₂₁.keeps (Keeps.tok s₂₁ (s₂₁.toks + 1))).locals x₂₂.toInCall.ns k₂₃ |>.keeps (Keeps.tok s₂₃ (s₂₃.toks + 1))).locals x₂₄.toInCall.ns k₂₅
            · exact riter_ns (s := { s₂₃ with toks := s₂₃.toks + 1 }) (riter_ns (s := { s₂₁ with toks := s₂₁.toks + 1 }) hI₂₁ x₂₂.toInCall.ns k₂₃) x₂₄.toInCall.ns k₂₅
            · rw [List.append_assoc]; exact hacc
          · have hz : left = 0 := by omega
            subst hz
            show if false = true then _ else _
            rw [if_neg (by decide)]
            refine wpAny_execs_nil (wpAny_execs_nil ?_)
            have hdz : digs d f 0 part = [] := by cases f <;> simp [digs]
            rw [hdz, List.append_nil] at hacc
            refine hR₂ _ _ ⟨12 - (i + 1), by omega, (hInv _ _).mpr ⟨i + 1, m', (fun y => if y = "kernel" then some (.int ((i + 1 : Nat) : Int) tv) else cm y), rfl, by omega, md', cs, cd, ck, x₁₈, ?_, hK₁₇, hI₁₇⟩⟩
            rw [← hacc]
            exact hD₁₇
      · have hi : i = 12 := by omega
        subst hi
        refine W.done s₇ _ _ hI₇ fun h' tk hk₈ => ?_
        have c₈ : Ch [] [I] s₇ { s₇ with heap := h', toks := tk } := ⟨h', tk, rfl, fun b o q e => ⟨o.slots, hk₈ b o q e, fun _ => rfl⟩⟩
        generalize hs₈ : ({ s₇ with heap := h', toks := tk } : Shared) = s₈ at *
        have x₈ := chC x₇ c₈ (fresh1 I_s) (one (P := fun z => ∃ o, s₇.heap.get? z = some o ∧ (∀ es n, o.data ≠ .dict es n) ∧ ∀ v, o.data ≠ .cell v) Ip)
        have hD₈ := hD₇.ch c₈ (by simpa using hID) (by simp)
        refine wpAny_execs_nil (wpAny_execs_cons (wpAny_Return_some (callBu (topC x₈ T) rfl (arg (nameL x₈ md (argEnd (sortedInts hD₈ hlen fun D' s₉ ns' k₉ h0 hD' hp hs => ?_)))))))
        exact h D' s₉ ns' (Keeps.trans (keptC x₈) k₉) (none_old (keptC x₈) h0) hD' hp hs
end Mine
end
section
open PySem PySem.W PySem.Calls PyProof.Rows
set_option maxRecDepth 100000
namespace Mine
section
variable {M : Model} {A : Around} {R : GenEnd} {Y : Protocol} {n : Nat} {s₀ : Shared} {c : Code} {fs : List Frame} {s : Shared} {env : Env}
  {K : Flow → Sem Fin} {H : Value → Sem Fin} {gd : Bool → Bool} {lv : List Value → List Value}
/-- a statement of a generator that does not yield -/
theorem sgDo {st : Stmt} {rest : List Stmt} (h : wpAny M (A.over c fs) (exec st env) (fun f s' => f = .next ∧ Seg M A R Y n s₀ c ((execs rest env).wrap K H gd lv) fs s') (fun _ _ => False) s) :
    Seg M A R Y n s₀ c ((execs (st :: rest) env).wrap K H gd lv) fs s :=
  seg_execs_cons (seg_wrap (wpAny_mono h (fun f s' q => by obtain ⟨rfl, q⟩ := q; exact q) fun _ _ x => x.elim))
theorem sgIf {test : Expr} {body orelse : List Stmt} {pos : Pos} (h : wpAny M (A.over c fs) (isTrue test env (eval test env)) (fun b s' => if b = true then Seg M A R Y n s₀ c ((execs body env).wrap K H gd lv) fs s' else Seg M A R Y n s₀ c ((execs orelse env).wrap K H gd lv) fs s') (fun _ _ => False) s) :
    Seg M A R Y n s₀ c ((exec (.If test body orelse pos) env).wrap K H gd lv) fs s := by
  rw [exec_If]
  refine seg_bind_wrap (wpAny_standAt (seg_bind_wrap (wpAny_mono h (fun b s' hb => ?_) fun _ _ x => x.elim)))
  cases b with
  | true => exact hb
  | false => exact hb
theorem sgFor {target iter : Expr} {body orelse : List Stmt} {pos : Pos} 
    (h : wpAny M (A.over c fs) (eval iter env) (fun x s₁ => wpAny M (A.over c fs) (pyIter x) (fun it s₂ => ∀ p, Seg M A R Y n s₀ (.forLoop target it body orelse env) (M.den (.forLoop target it body orelse env))
      (.ret (fun r => ((match r with | .ok f => (.pure f : Sem Flow) | .error e => .raise e).onRaise fun (x : Value) => do
        if (← field x 1) == Value.none then unsupported "frame.own-activation:exception-without-traceback"
        setFlight x env.frame).wrap K H gd lv) none (gd false) (lv []) c p [] :: fs) s₂) (fun _ _ => False) s₁) (fun _ _ => False) s)
    (hs : ∀ x, foldedSetIterable iter env x = pure x := by intro _; rfl) :
    Seg M A R Y n s₀ c ((exec (.For target iter body orelse pos) env).wrap K H gd lv) fs s := by
  rw [exec_For]
  refine seg_bind_wrap (wpAny_standAt (seg_bind_wrap (wpAny_mono h (fun x s₁ h₁ => ?_) fun _ _ x => x.elim)))
  refine seg_bind_wrap (wpAny_of_eq (hs x) (seg_bind_wrap (wpAny_standAt (seg_bind_wrap (wpAny_holding (wpAny_mono h₁ (fun it s₂ h₂ => ?_) fun _ _ x => x.elim))))))
  exact seg_call h₂
end
section
variable {prog : Program} {w : World} {A : Around} {R : GenEnd} {Y : Protocol} {n : Nat} {s₀ : Shared} {fs : List Frame} {s : Shared} {env : Env}
theorem sgForTurn {target : Expr} {it : Value} {body orelse : List Stmt}
    (h : wpAny (model prog w) (A.over (.forLoop target it body orelse env) fs) (pyNext it) (fun r s₁ => ∃ v, r = some v ∧ wpAny (model prog w) (A.over (.forLoop target it body orelse env) fs) (assign target env v) (fun _ s' =>
          Seg (model prog w) A R Y n s₀ (.forLoop target it body orelse env) ((execs body env).wrap (fun f => match f with
            | .next | .cont => .pure (.again (.forLoop target it body orelse env))
            | .brk => .pure (.done .next)
            | .ret v => .pure (.done (.ret v))) (fun e => (do noteFrame e env; theTreesLotGoes e : Sem Unit).wrap (fun _ => .raise e) .raise id id) id id) fs s') (fun _ _ => False) s₁)
      (fun _ _ => False) s) (ht : ∀ v, letOwnedTupleGo target it v = pure () := by intro _; rfl) :
    Seg (model prog w) A R Y n s₀ (.forLoop target it body orelse env) ((model prog w).den (.forLoop target it body orelse env)) fs s := by
  show Seg _ A R Y n s₀ _ ((forTurn target it body orelse env).onRaise (fun x => do noteFrame x env; theTreesLotGoes x)) fs s
  unfold forTurn
  rw [Sem.onRaise_eq_wrap]
  refine seg_bind_wrap (wpAny_standAt (seg_bind_wrap (wpAny_onRaise (wpAny_mono h (fun r s₁ h₁ => ?_) fun _ _ x => x.elim))))
  obtain ⟨v, rfl, h₁⟩ := h₁
  refine seg_bind_wrap (wpAny_of_eq (ht v) (seg_bind_wrap (wpAny_mono h₁ (fun _ s' h' => ?_) fun _ _ x => x.elim)))
  rw [Sem.bind_eq_wrap', Sem.wrap_wrap]
  rw [Sem.wrap_congr (execs body env) _ _ (K' := fun f => match f with
            | .next | .cont => .pure (.again (.forLoop target it body orelse env))
            | .brk => .pure (.done .next)
            | .ret v => .pure (.done (.ret v))) (H' := (fun e => (do noteFrame e env; theTreesLotGoes e : Sem Unit).wrap (fun _ => .raise e) .raise id id))
        (fun f => by cases f <;> rfl)
        (fun e => by first | exact Sem.bind_eq_wrap _ _ | (show (do noteFrame e env; theTreesLotGoes e : Sem Unit).bind (fun _ => .raise e) = _; rw [Sem.bind_eq_wrap]))]
  exact h'
end
section
variable {prog : Program} {w : World} {A : Around} {E : Value → Shared → Prop} {s : Shared}
/-- next of a generator: what it leaves behind is bare -/
theorem nextGen {a : Addr} {g n : Nat} {gs : GenState} {P : Nat → Shared → Shared → Prop} {Y : Protocol} {Q : Option Value → Shared → Prop} (hh : A.handled = none)
    (hl : s.heap.NoLimit) (hroom : A.depth < recursionLimit)
    (hg : s.heap.IsGen a g) (hgs : s.gens[g]? = some gs)
    (hgo : gs.Goes (model prog w) A.in1 (fun n s₀ r s₁ => r = .ok (.ret .none) ∧ P n s₀ s₁) Y n (.send .none) (s.setGen g .running))
    (hY : ∀ v s₁ gs', gs'.bare = true → Y (n - 1) (s.setGen g .running) v s₁ (fun r' s'' => match n with
        | 0 => False
        | m + 1 => gs'.Goes (model prog w) A.in1 (fun n s₀ r s₁ => r = .ok (.ret .none) ∧ P n s₀ s₁) Y m r' s'') → Q (some v) (s₁.setGen g gs'))
    (hP : ∀ s₁, P n (s.setGen g .running) s₁ → ∀ h', (∀ b o, s₁.heap.get? b = some o → h'.get? b = some o) → Q none { s₁.setGen g .finished with heap := h' }) :
    wpAny (model prog w) A (pyNext (.ref a)) Q E s := by
  unfold pyNext
  refine wpAny_bind (wpAny_attempt (wpAny_callSpecial?_slot (name := Str.ofString "__next__") hg.typeIs slot_gen_next
    (wpAny_call_entry slot_gen_next hg.typeIs entry_gen_next ?_ (args_gen_next _))))
  show wpAny _ _ (Builtin.Generator.genWake (.ref a) (.send .none)) _ _ s
  unfold Builtin.Generator.genWake
  refine wpAny_bind (wpAny_holding (wpAny_genNumber hg (wpAny_bind (wpAny_genState hgs ?_))))
  cases gs with
  | running => exact hgo.elim
  | finished => exact hgo.elim
  | _ =>
    refine wpAny_bind (wpAny_roomToWake hl hroom ?_)
    show wpAny _ _ (.resume g (.send .none) [] _) _ _ s
    refine wpAny_resumeQ hgs hgo (fun x s₁ hx => ?_) (fun v s₁ gs' hb hv => wpAny_pure ⟨v, rfl, wpAny_pure (hY v s₁ gs' hb hv)⟩)
    obtain ⟨rfl, hp⟩ := hx
    show wpAny _ _ (newExc (.type "StopIteration") [] >>= _) _ _ _
    refine wpAny_bind ?_
    simp only [newExc, newTuple]
    refine wpAny_bind (wpAny_newObj_type ?_ (by size_fits))
    refine wpAny_bind (m := firstArgMember _ _) (wpAny_of_eq (a := Value.none) (by first | rfl | (simp only [firstArgMember]; rfl)) ?_)
    refine wpAny_newObj_type ?_ (by size_fits)
    simp only [raiseNew]
    refine wpAny_bind (wpAny_bind (wpAny_handled ?_))
    rw [show A.in1.handled = none from hh]
    refine wpAny_throw ?_
    refine wpAny_bind (wpAny_isInstance (T := "StopIteration") (b := true) ⟨_, Heap.get?_push_size _ rfl, rfl⟩ isSubtype_stop ?_)
    exact wpAny_pure (hP s₁ hp _ fun b o hb => Heap.get?_push_of_some _ (Heap.get?_push_of_some _ hb))
end
end Mine
end
section
open PySem PySem.W PySem.Calls PyProof.Rows
set_option maxRecDepth 100000
namespace Mine
/-- the generator's frame -/
abbrev gEnv (Lg : Addr) : Env := envK 9 50 51 Lg
/-- the i-th interval -/
def outAt (R : List Int) (e i : Nat) : Int := if i < e then R.getD i 0 else R.getD (e - 1) 0
def ItNew (Lg l it : Addr) (h : Heap) : Prop := Lg < it ∧ (h.get? it = none ∨ ∃ j, h.IsListIter it l j)
theorem TopOk.low {h h' : Heap} (T : TopOk h) (k : ∀ b o, b < 110 → b ≠ 30 → b ≠ 77 → h.get? b = some o → h'.get? b = some o) : TopOk h' := by
  have code : ∀ q ∈ fns, q.2.2.1 ≠ 30 ∧ q.2.2.1 ≠ 77 ∧ q.1 ≠ 30 ∧ q.1 ≠ 77 ∧ q.1 < 110 ∧ q.2.2.1 < 110 := by decide
  have mem : ∀ (l : List (Addr × Nat × Addr × Value)) (a : Addr) (x : Nat × Addr × Value), l.lookup a = some x → (a, x) ∈ l := by
    intro l
    induction l with
    | nil => intro a x h; cases h
    | cons y l ih =>
      intro a x h
      obtain ⟨b, z⟩ := y
      rw [List.lookup_cons] at h
      cases q : a == b with
      | true => rw [q] at h; cases h; rw [beq_iff_eq.mp q]; exact .head _
      | false => rw [q] at h; exact .tail _ (ih a x h)
  have nsN : ∀ a m, a < 110 → a ≠ 30 → a ≠ 77 → h.Ns a m → h'.Ns a m := fun a m h0 h1 h2 n => ns_keep (fun o e => k a o h0 h1 h2 e) n
  refine ⟨?_, ?_, ?_, ?_, ?_, ?_⟩
  · obtain ⟨mg, n, r⟩ := T.glob
    exact ⟨mg, nsN _ _ (by decide) (by decide) (by decide) n, r⟩
  · obtain ⟨mb, n, r⟩ := T.built
    exact ⟨mb, nsN _ _ (by decide) (by decide) (by decide) n, r⟩
  · obtain ⟨mc, n, r⟩ := T.lim
    exact ⟨mc, nsN _ _ (by decide) (by decide) (by decide) n, r⟩
  · intro a f c dv hl
    obtain ⟨o, pm, doc, h1, h2, h3⟩ := T.fn a f c dv hl
    have q := code _ (mem _ _ _ hl)
    obtain ⟨c', o', vs, t, e1, e2, e3, e4⟩ := h3
    cases e1
    exact ⟨o, pm, doc, k _ _ q.2.2.2.2.1 q.2.2.1 q.2.2.2.1 h1, h2, c, o', vs, t, rfl, k _ _ q.2.2.2.2.2 q.1 q.2.1 e2, e3, e4⟩
  · obtain ⟨o, n, h1, h2, r⟩ := T.dflt
    exact ⟨o, n, k _ _ (by decide) (by decide) (by decide) h1, h2, r⟩
  · obtain ⟨o, h1, r⟩ := T.miss
    exact ⟨o, k _ _ (by decide) (by decide) (by decide) h1, r⟩
theorem TopOk.size {h : Heap} (T : TopOk h) : 110 ≤ h.objs.size := by
  obtain ⟨o, pm, doc, h1, _⟩ := T.fn 109 20 108 .none rfl
  exact Heap.lt_size h1
theorem Ch.low {F X : List Addr} {s s' : Shared} (c : Ch F X s s') (T : TopOk s.heap) (hF : ∀ b ∈ F, 110 ≤ b) (hX : ∀ b ∈ X, 110 ≤ b) : TopOk s'.heap := by
  refine T.low fun b o hb _ _ e => c.get (fun q => ?_) (fun q => ?_) e
  · exact absurd (hX b q) (Nat.not_le.mpr hb)
  · exact absurd (hF b q) (Nat.not_le.mpr hb)
def GoesOn (Lg l : Addr) (s₀ s₁ : Shared) : Prop := ∃ it, Ch [] [Lg, it] s₀ s₁ ∧ ItNew Lg l it s₀.heap
def YY (R : List Int) (e : Nat) (Lg l : Addr) : Protocol := fun m s₀ v s₁ κ => (∃ t, v = .int (outAt R e (9 - m)) t) ∧ (R.getD e 0 = 127 → 9 - m < e) ∧ ∃ it, Ch [] [Lg, it] s₀ s₁ ∧ ItNew Lg l it s₀.heap ∧ (∃ j, s₁.heap.IsListIter it l j) ∧
  (0 < m → ∀ s'', (∀ b ∈ [Lg, l, it], ∀ o, s₁.heap.get? b = some o → s''.heap.get? b = some o) → TopOk s''.heap → κ (.send .none) s'')
def PP (R : List Int) (e : Nat) (Lg l : Addr) (n : Nat) (s₀ s₁ : Shared) : Prop := n + e = 10 ∧ R.getD e 0 = 127 ∧ GoesOn Lg l s₀ s₁
def RR (R : List Int) (e : Nat) (Lg l : Addr) : GenEnd := fun n s₀ r s₁ => r = .ok (.ret .none) ∧ PP R e Lg l n s₀ s₁

def wTest : Expr := match (fnBody 9) with | _ :: .For _ _ (_ :: .If _ (_ :: .While t _ _ _ :: _) _ _ :: _) _ _ :: _ => t | _ => .Name "x" default
def wBody : List Stmt := match (fnBody 9) with | _ :: .For _ _ (_ :: .If _ (_ :: .While _ b _ _ :: _) _ _ :: _) _ _ :: _ => b | _ => []
def fTarget : Expr := match (fnBody 9) with | _ :: .For t _ _ _ _ :: _ => t | _ => .Name "x" default
def fBody : List Stmt := match (fnBody 9) with | _ :: .For _ _ b _ _ :: _ => b | _ => []

section
variable {w : World} {A : Around} {R : List Int} {e : Nat} {Lg l : Addr}
theorem iter_keep {h h' : Heap} {it l : Addr} {j : Nat} (x : h.IsListIter it l j) (k : ∀ o, h.get? it = some o → h'.get? it = some o) : h'.IsListIter it l j := by
  obtain ⟨o, e, r⟩ := x
  exact ⟨o, k o e, r⟩
theorem segWhile (h127 : R.getD e 0 ≠ 127) {fs : List Frame} (hfs : splitAtGen fs = none) (hfg : fs.any Frame.guarded = false) : ∀ (n : Nat) (s₀ s : Shared) (m : Str → Option Value) (t : Tok) (it : Addr), e + (n + 1) ≤ 10 → s.heap.Ns Lg m → m "last_interval" = some (.int (R.getD (e - 1) 0) t) →
    Ch [] [Lg, it] s₀ s → ItNew Lg l it s₀.heap → (∃ j, s.heap.IsListIter it l j) →
    Seg (MM w) A (RR R e Lg l) (YY R e Lg l) (n + 1) s₀ (.whileLoop wTest wBody [] (gEnv Lg)) ((MM w).den (.whileLoop wTest wBody [] (gEnv Lg))) fs s := by
  intro n
  induction n with
  | zero =>
    intro s₀ s m t it h2 hns hm hch hit hj
    refine seg_whileLoop (wpAny_isTrue_value (wpAny_Constant_bool (wpAny_truthy_bool ?_)))
    rw [if_pos rfl]
    refine seg_execs_cons (seg_Expr_Yield hfs rfl hfg (wpAny_Name (wpAny_loadName_local rfl rfl hns hm fun kap hk => ?_) (by decide)))
    refine ⟨⟨t, ?_⟩, fun q => absurd q h127, it, hch, hit, hj, fun h => absurd h (Nat.lt_irrefl _)⟩
    rw [outAt, if_neg (by omega)]
  | succ n ih =>
    intro s₀ s m t it h2 hns hm hch hit hj
    refine seg_whileLoop (wpAny_isTrue_value (wpAny_Constant_bool (wpAny_truthy_bool ?_)))
    rw [if_pos rfl]
    refine seg_execs_cons (seg_Expr_Yield hfs rfl hfg (wpAny_Name (wpAny_loadName_local rfl rfl hns hm fun kap hk => ?_) (by decide)))
    refine ⟨⟨t, ?_⟩, fun q => absurd q h127, it, hch, hit, hj, fun _ s'' hkp T'' => hk .none s'' ?_⟩
    · rw [outAt, if_neg (by omega)]
    · obtain ⟨j, hj⟩ := hj
      have hj' := iter_keep hj (hkp it (by simp))
      exact seg_again rfl (ih s'' s'' m t it (by omega) (ns_keep (hkp Lg (by simp)) hns) hm (Ch.refl _) ⟨hit.1, .inr ⟨j, hj'⟩⟩ ⟨j, hj'⟩)

theorem nameCM {M : Model} {A : Around} {s : Shared} {Q : Value → Shared → Prop} {E : Value → Shared → Prop} {env : Env} {pos : Pos} (T : TopOk s.heap) (h : ∀ t, Q (.int 127 t) s) (hk : env.scope.kind = .function := by rfl) (hl : env.kindOf "CHAR_MAX" = some .globalImplicit := by rfl) (hg : env.globals = mainGlobals := by rfl) :
    wpAny M A (eval (.Name "CHAR_MAX" pos) env) Q E s := by
  refine wpAny_Name ?_ (by decide)
  rw [loadName_read hk hl]
  obtain ⟨mg, N, _, _, t, e⟩ := T.glob
  unfold loadGlobal
  rw [hg]
  refine wpAny_bind (wpAny_nsGet N ?_)
  rw [e]
  exact wpAny_pure (h t)
abbrev bodyW (it : Addr) (Lg : Addr) : Sem Fin := (execs fBody (gEnv Lg)).wrap (fun f => match f with
            | .next | .cont => .pure (.again (.forLoop fTarget (.ref it) fBody [] (gEnv Lg)))
            | .brk => .pure (.done .next)
            | .ret v => .pure (.done (.ret v))) (fun e => (do noteFrame e (gEnv Lg); theTreesLotGoes e : Sem Unit).wrap (fun _ => .raise e) .raise id id) id id
theorem segTurn {fs : List Frame} (hh : ∀ c, (A.over c fs).handled = none) (hLg : 110 ≤ Lg) {n i : Nat} {s₀ s : Shared} {m : Str → Option Value} {it : Addr} (hi : i < R.length) (hns : s.heap.Ns Lg m) (T : TopOk s.heap) (hl : IsInts s.heap l R) (hch : Ch [] [Lg, it] s₀ s) (hit : ItNew Lg l it s₀.heap) (hj : s.heap.IsListIter it l i)
    (h : ∀ s' t, s'.heap.Ns Lg (fun y => if y = "interval" then some (.int (R.getD i 0) t) else m y) → TopOk s'.heap → IsInts s'.heap l R → Ch [] [Lg, it] s₀ s' → s'.heap.IsListIter it l (i + 1) →
      Seg (MM w) A (RR R e Lg l) (YY R e Lg l) n s₀ (.forLoop fTarget (.ref it) fBody [] (gEnv Lg)) (bodyW it Lg) fs s') :
    Seg (MM w) A (RR R e Lg l) (YY R e Lg l) n s₀ (.forLoop fTarget (.ref it) fBody [] (gEnv Lg)) ((MM w).den (.forLoop fTarget (.ref it) fBody [] (gEnv Lg))) fs s := by
  have two110 : ∀ b ∈ [Lg, it], 110 ≤ b := two (P := fun b => 110 ≤ b) hLg (Nat.le_trans hLg (Nat.le_of_lt hit.1))
  have hLit : Lg ≠ it := by
    rintro rfl
    obtain ⟨o, _, _, e1, d, _⟩ := hns
    obtain ⟨o', e2, _, d'⟩ := hj
    rw [e1] at e2; cases e2
    rw [d] at d'; cases d'
  have hlit : l ≠ it := by
    rintro rfl
    obtain ⟨o', e2, _, d'⟩ := hj
    obtain ⟨vs, n, e1, _⟩ := hl
    have e3 : s.heap.get? _ = some _ := e1
    rw [e3] at e2; cases e2; cases d'
  refine sgForTurn (nextInts (hh _) hj hl (fun n hn t s₁ c₁ hit₁ => ⟨_, rfl, wpAny_assign_Name ?_⟩) fun hle => absurd hle (Nat.not_le.mpr hi))
  have hns₁ : s₁.heap.Ns Lg m := ns_keep (fun o e => c₁.get (by simpa using hLit) (by simp) e) hns
  have hl₁ := hl.ch c₁ (by simpa using hlit) (by simp)
  have hv : n = R.getD i 0 := by
    rw [List.getElem?_eq_getElem hi] at hn; cases hn
    simp [hi]
  refine wpAny_storeName_local rfl hns₁ (fun h' hn' hs' => ?_) rfl
  have c₂ : Ch [] [Lg] s₁ { s₁ with heap := h', toks := s₁.toks + 1 } := ⟨h', s₁.toks + 1, rfl, fun b o q e => ⟨o.slots, hs'.extBut b o (fun q' => q (q' ▸ .head _)) e, fun _ => rfl⟩⟩
  have c₃ : Ch [] [Lg, it] s { s₁ with heap := h', toks := s₁.toks + 1 } := Ch.trans (c₁.mono (fun _ h => h) (fun b hb => by rw [List.mem_singleton.mp hb]; exact .tail _ (.head _))) (c₂.mono (fun _ h => h) (fun b hb => by rw [List.mem_singleton.mp hb]; exact .head _))
  rw [hv] at hn'
  refine h _ t hn' (c₃.low T nofun two110) ?_ (Ch.trans hch c₃) ?_
  · refine hl₁.ch c₂ ?_ (by simp)
    simp only [List.mem_singleton]
    rintro rfl
    obtain ⟨o, _, _, e1, d, _⟩ := hns₁
    obtain ⟨vs, n, e2, _⟩ := hl₁
    have e3 : s₁.heap.get? _ = some _ := e2
    rw [e3] at e1; cases e1; cases d
  · exact iter_keep hit₁ fun o e => c₂.get (by simpa using Ne.symm hLit) (by simp) e
theorem ar20 {i k e : Nat} (h : i + (k + 1) = e) (h5 : e ≤ 5) : i < 6 ∧ i < e ∧ 10 - i = (9 - i) + 1 ∧ 9 - (9 - i) = i ∧ 9 - i = 10 - (i + 1) ∧ (i + 1) + k = e :=
  have h1 : i < e := Nat.lt_of_lt_of_le (Nat.lt_succ_of_le (Nat.le_add_right i k)) (Nat.le_of_eq h)
  have h9 : i ≤ 9 := Nat.le_trans (Nat.le_of_lt h1) (Nat.le_trans h5 (by decide))
  ⟨Nat.lt_of_lt_of_le h1 (Nat.le_trans h5 (by decide)), h1, Nat.succ_sub h9, Nat.sub_sub_self h9, (Nat.succ_sub_succ 9 i).symm, (Nat.succ_add i k).trans h⟩
theorem ar20z {i : Nat} (h : i ≤ 5) : i < 6 ∧ 10 - i = (9 - i) + 1 ∧ 10 - i + i = 10 :=
  ⟨Nat.lt_succ_of_le h, Nat.succ_sub (Nat.le_trans h (by decide)), Nat.sub_add_cancel (Nat.le_trans h (by decide))⟩
theorem segFor (hA : A.handled = none) {fs : List Frame} (hfs : splitAtGen fs = none) (hfg : fs.any Frame.guarded = false) (hh : ∀ c, (A.over c fs).handled = none) (hLg : 110 ≤ Lg) (hR : R.length = 6) (he1 : 1 ≤ e) (he5 : e ≤ 5) (hz : R.getD e 0 = 0 ∨ R.getD e 0 = 127) (hbef : ∀ k, k < e → R.getD k 0 ≠ 0 ∧ R.getD k 0 ≠ 127)
    (hend : ∀ n s₀ s, PP R e Lg l n s₀ s → ∀ it, Seg (MM w) A (RR R e Lg l) (YY R e Lg l) n s₀ (.forLoop fTarget (.ref it) fBody [] (gEnv Lg)) (.pure (.done (.ret .none))) fs s) :
    ∀ (k i : Nat) (s₀ s : Shared) (m : Str → Option Value) (it : Addr), i + k = e → s.heap.Ns Lg m → (∃ v, m "last_interval" = some v ∧ (0 < i → ∃ t, v = .int (R.getD (i - 1) 0) t)) → TopOk s.heap → IsInts s.heap l R →
    Ch [] [Lg, it] s₀ s → ItNew Lg l it s₀.heap → s.heap.IsListIter it l i →
    Seg (MM w) A (RR R e Lg l) (YY R e Lg l) (10 - i) s₀ (.forLoop fTarget (.ref it) fBody [] (gEnv Lg)) ((MM w).den (.forLoop fTarget (.ref it) fBody [] (gEnv Lg))) fs s := by
  intro k
  induction k with
  | zero =>
    intro i s₀ s m it hik hns hlast T hl hch hit hj
    obtain rfl : i = e := hik
    obtain ⟨a1, a2, a3⟩ := ar20z he5
    refine segTurn hh hLg (by rw [hR]; exact a1) hns T hl hch hit hj fun s₁ t hns₁ T₁ hl₁ hch₁ hj₁ => ?_
    refine seg_execs_cons (sgIf (wpAny_isTrue_Compare1 (wpAny_Name (wpAny_loadName_local rfl rfl hns₁ (v := .int (R.getD i 0) t) rfl (nameCM T₁ fun t' => eq_int (wpAny_truthy_bool ?_))) (by decide))))
    rcases hz with hz | hz
    · rw [hz]
      show if false = true then _ else _
      rw [if_neg (by decide)]
      refine seg_execs_nil ?_
      show Seg _ _ _ _ _ _ _ ((execs _ _).wrap _ _ _ _) _ _
      refine seg_execs_cons (sgIf (wpAny_isTrue_Compare1 (wpAny_Name (wpAny_loadName_local rfl rfl hns₁ (v := .int (R.getD i 0) t) rfl (wpAny_Constant_int (eq_int (wpAny_truthy_bool ?_)))) (by decide))))
      rw [hz]
      show if (0 == 0 : Bool) = true then _ else _
      rw [if_pos (by decide)]
      obtain ⟨v, hv, hv'⟩ := hlast
      obtain ⟨tv, rfl⟩ := hv' he1
      refine seg_execs_cons (sgIf (wpAny_isTrue_Compare1 (wpAny_Name (wpAny_loadName_local rfl rfl hns₁ (v := .int (R.getD (i - 1) 0) tv) hv (wpAny_Constant_none (wpAny_is_other rfl nofun (wpAny_truthy_bool ?_)))) (by decide))))
      show if false = true then _ else _
      rw [if_neg (by decide)]
      refine seg_execs_nil ?_
      show Seg _ _ _ _ _ _ _ ((execs _ _).wrap _ _ _ _) _ _
      obtain ⟨n, hn⟩ : ∃ n, 10 - i = n + 1 := ⟨9 - i, a2⟩
      rw [hn]
      refine seg_execs_cons (seg_While fun p => segWhile (by rw [hz]; decide) (by simp [splitAtGen, hfs]) (by simpa [Frame.guarded] using hfg) n s₀ _ _ tv it (by omega) hns₁ hv (Ch.trans hch₁ (Ch.of ⟨_, _, rfl, fun _ _ e => e⟩)) hit ⟨_, hj₁⟩)
    · rw [hz]
      show if (127 == 127 : Bool) = true then _ else _
      rw [if_pos (by decide)]
      refine seg_execs_cons (seg_wrap (wpAny_Return_none ?_))
      exact hend _ _ _ ⟨a3, hz, it, hch₁, hit⟩ it
  | succ k ih =>
    intro i s₀ s m it hik hns hlast T hl hch hit hj
    obtain ⟨a1, a2, a3, a4, a5, a6⟩ := ar20 hik he5
    refine segTurn hh hLg (by rw [hR]; exact a1) hns T hl hch hit hj fun s₁ t hns₁ T₁ hl₁ hch₁ hj₁ => ?_
    have hb := hbef i a2
    refine seg_execs_cons (sgIf (wpAny_isTrue_Compare1 (wpAny_Name (wpAny_loadName_local rfl rfl hns₁ (v := .int (R.getD i 0) t) rfl (nameCM T₁ fun t' => eq_int (wpAny_truthy_bool ?_))) (by decide))))
    rw [beq_eq_false_iff_ne.mpr hb.2]
    show if false = true then _ else _
    rw [if_neg (by decide)]
    refine seg_execs_nil ?_
    show Seg _ _ _ _ _ _ _ ((execs _ _).wrap _ _ _ _) _ _
    refine seg_execs_cons (sgIf (wpAny_isTrue_Compare1 (wpAny_Name (wpAny_loadName_local rfl rfl hns₁ (v := .int (R.getD i 0) t) rfl (wpAny_Constant_int (eq_int (wpAny_truthy_bool ?_)))) (by decide))))
    rw [beq_eq_false_iff_ne.mpr hb.1]
    show if false = true then _ else _
    rw [if_neg (by decide)]
    refine seg_execs_nil ?_
    show Seg _ _ _ _ _ _ _ ((execs _ _).wrap _ _ _ _) _ _
    obtain ⟨n, hn, hn9⟩ : ∃ n, 10 - i = n + 1 ∧ n = 9 - i := ⟨9 - i, a3, rfl⟩
    rw [hn]
    refine seg_execs_cons (seg_Expr_Yield hfs rfl hfg (wpAny_Name (wpAny_loadName_local rfl rfl hns₁ (v := .int (R.getD i 0) t) rfl fun kap hk => ?_) (by decide)))
    refine ⟨⟨t, ?_⟩, fun _ => by rw [hn9, a4]; exact a2, it, Ch.trans hch₁ (Ch.of ⟨_, _, rfl, fun _ _ e => e⟩), hit, ⟨_, hj₁⟩, fun _ s'' hkp T'' => hk .none s'' ?_⟩
    · rw [hn9, a4, outAt, if_pos a2]
    · have hns₂ := ns_keep (hkp Lg (by simp)) hns₁
      have hj₂ := iter_keep hj₁ (hkp it (by simp))
      have hl₂ := hl₁.keep1 (hkp l (by simp))
      show Seg _ _ _ _ _ _ _ ((execs _ _).wrap _ _ _ _) _ _
      refine sgDo (wpAny_Assign_Name (wpAny_Name (wpAny_loadName_local rfl rfl hns₂ (v := .int (R.getD i 0) t) rfl (wpAny_storeName_local rfl hns₂ (fun h' hn' hs' => ⟨rfl, ?_⟩) rfl)) (by decide)))
      refine seg_execs_nil (seg_again rfl ?_)
      have c₂ : Ch [] [Lg] s'' { s'' with heap := h', toks := s''.toks + 1 } := ⟨h', s''.toks + 1, rfl, fun b o q e => ⟨o.slots, hs'.extBut b o (fun q' => q (q' ▸ .head _)) e, fun _ => rfl⟩⟩
      rw [hn9.trans a5]
      have hLit : it ≠ Lg := by
        rintro rfl
        obtain ⟨o, _, _, e1, d, _⟩ := hns₂
        obtain ⟨o', e2, _, d'⟩ := hj₂
        rw [e1] at e2; cases e2
        rw [d] at d'; cases d'
      have hlL : l ≠ Lg := by
        rintro rfl
        obtain ⟨o, _, _, e1, d, _⟩ := hns₂
        obtain ⟨vs, n, e2, _⟩ := hl₂
        have e3 : s''.heap.get? _ = some _ := e2
        rw [e3] at e1; cases e1; cases d
      exact ih (i + 1) s'' _ _ it a6 hn' ⟨_, rfl, fun _ => ⟨t, rfl⟩⟩ (c₂.low T'' nofun (one (P := fun b => 110 ≤ b) hLg)) (hl₂.ch c₂ (by simpa using hlL) (by simp)) (c₂.mono (fun _ h => h) (fun b hb => by rw [List.mem_singleton.mp hb]; exact .head _)) ⟨hit.1, .inr ⟨_, hj₂⟩⟩ (iter_keep hj₂ fun o e => c₂.get (by simpa using hLit) (by simp) e)
end
end Mine
end
section
open PySem PySem.W PySem.Calls PyProof.Rows
set_option maxRecDepth 100000
namespace Mine
section
variable {w : World} {A : Around} {R : List Int} {e : Nat} {Lg l : Addr} {s : Shared}
theorem genStart (hA : A.handled = none) (hLg : 110 ≤ Lg) (hR : R.length = 6) (he1 : 1 ≤ e) (he5 : e ≤ 5) (hz : R.getD e 0 = 0 ∨ R.getD e 0 = 127) (hbef : ∀ k, k < e → R.getD k 0 ≠ 0 ∧ R.getD k 0 ≠ 127)
    {m : Str → Option Value} (hns : s.heap.Ns Lg m) (hm : m "grouping" = some (.ref l)) (T : TopOk s.heap) (hl : IsInts s.heap l R) :
    (GenState.fresh (.func (fnBody 9) (gEnv Lg))).Goes (MM w) A (RR R e Lg l) (YY R e Lg l) 10 (.send .none) s := by
  refine ⟨rfl, seg_func ?_⟩
  refine sgDo (wpAny_Assign_Name (wpAny_Constant_none (wpAny_storeName_local rfl hns (fun h' hn' hs' => ⟨rfl, ?_⟩) rfl)))
  have c₂ : Ch [] [Lg] s { s with heap := h', toks := s.toks + 1 } := ⟨h', s.toks + 1, rfl, fun b o q e => ⟨o.slots, hs'.extBut b o (fun q' => q (q' ▸ .head _)) e, fun _ => rfl⟩⟩
  have hlL : l ≠ Lg := by
    rintro rfl
    obtain ⟨o, _, _, e1, d, _⟩ := hns
    obtain ⟨vs, n, e2, _⟩ := hl
    have e3 : s.heap.get? _ = some _ := e2
    rw [e3] at e1; cases e1; cases d
  have hl₂ := hl.ch c₂ (by simpa using hlL) (by simp)
  have T₂ : TopOk h' := c₂.low T nofun (one (P := fun b => 110 ≤ b) hLg)
  obtain ⟨vs, hlist, hi⟩ := hl₂.list
  refine seg_execs_cons (sgFor (wpAny_Name (wpAny_loadName_local rfl rfl hn' (v := .ref l) hm (wpAny_pyIter_list hlist ?_)) (by decide)))
  intro p
  have k₃ : Keeps { s with heap := h', toks := s.toks + 1 } { s with heap := h'.push { cls := .type "list_iterator", data := .fields #[.ref l, .int 0 0] }, toks := s.toks + 1 } := Keeps.push { s with heap := h', toks := s.toks + 1 } _
  have hsz : s.heap.objs.size ≤ h'.objs.size := Nat.le_of_eq hs'.1.symm
  have hLgs : Lg < h'.objs.size := by
    obtain ⟨o, _, _, e1, _⟩ := hn'
    exact Heap.lt_size e1
  have hnew : s.heap.get? h'.objs.size = none := by
    cases q : s.heap.get? h'.objs.size with
    | none => rfl
    | some o => exact absurd (Heap.lt_size q) (Nat.not_lt.mpr hsz)
  refine segFor (k := e) (i := 0) hA (by rfl) (by rfl) (fun c => ?_) hLg hR he1 he5 hz hbef (fun n s₀ s' hP it => ?_) s _ _ h'.objs.size (by omega) (ns_keep (fun o e => Heap.get?_push_of_some _ e) hn') ⟨_, rfl, fun h => absurd h (Nat.lt_irrefl _)⟩ (T₂.keep (KeepH.of fun b o e => Heap.get?_push_of_some _ e)) (hl₂.keeps k₃)
    (Ch.trans (c₂.mono (fun _ h => h) (fun b hb => by rw [List.mem_singleton.mp hb]; exact .head _)) (Ch.of k₃)) ⟨hLgs, .inl hnew⟩ ⟨_, Heap.get?_push_size _ rfl, rfl, rfl⟩
  · show (marksOver _ (A.handled, A.handled)).1 = none
    rw [hA]
    rfl
  · exact seg_leaf (.ok (.ret .none)) (seg_end (.ok (.ret .none)) ⟨rfl, hP⟩)
end
end Mine
end
section
open PySem PySem.W PySem.Calls PyProof.Rows
set_option maxRecDepth 100000
namespace Mine
def walkedAt (R : List Int) (e : Nat) : List Int := (List.range (if R.getD e 0 = 127 then e else 10)).map (outAt R e)
section
variable {w : World} {A : Around} {Q : Value → Shared → Prop} {E : Value → Shared → Prop} {s : Shared} {l : Addr}
/-- the generator made -/
theorem genCall {n : Nat} (T : TopOk s.heap) (hA : Ok A n)
    (h : ∀ a h' tk m, (∀ b o, s.heap.get? b = some o → h'.get? b = some o) → h'.Ns s.heap.objs.size m → m "grouping" = some (.ref l) → h'.IsGen a s.gens.size → s.heap.objs.size < a → Q (.ref a) { s with heap := h', toks := tk, gens := s.gens.push (.fresh (.func (fnBody 9) (gEnv s.heap.objs.size))) }) :
    wpAny (MM w) A (call (.ref 51) [.ref l]) Q E s := by
  obtain ⟨o, pm, doc, ho, hd, hcd⟩ := T.fn 51 9 50 .none rfl
  refine wpAny_call (codeAny_call_generator (fd := fdOf 9 50 .none pm doc) (body := fnBody 9) hA.room ho hd rfl rfl rfl hcd ?_)
  refine wpAny_of_eq (a := ([("grouping", .ref l)] : List (Str × Value))) rfl ?_
  refine wpAny_newFunctionEnv_cells (scope := fnScope 9) rfl (fun x hx => ?_) fun env he s' x => ?_
  · rw [List.mem_singleton.mp hx]
    exact .inl rfl
  · subst he
    refine ⟨T.lim.keeps x.toInCall.keep, ?_⟩
    obtain ⟨h₁, tk, rfl⟩ := x.toInCall.same
    refine h _ _ _ _ (fun b o e => Heap.get?_push_of_some _ (x.toInCall.keep b o e)) (ns_keep (fun o e => Heap.get?_push_of_some _ e) x.toInCall.ns) rfl ⟨_, _, _, Heap.get?_push_size _ rfl, rfl, rfl, rfl⟩ ?_
    obtain ⟨o', _, _, e', _⟩ := x.toInCall.ns
    exact Heap.lt_size e'
theorem gensC {s₀ s : Shared} {L : Addr} {m cm : Str → Option Value} {cs : List (Str × Addr)} (x : InCallC s₀ L m cs cm s) (G : Array GenState) : InCallC { s₀ with gens := G } L m cs cm { s with gens := G } := by
  obtain ⟨h, t, rfl⟩ := x.toInCall.same
  exact ⟨⟨⟨h, t, rfl⟩, x.toInCall.ns, x.toInCall.keep, x.toInCall.fresh⟩, x.cell, x.apart, x.above⟩
theorem setGen_push (s : Shared) (G : Array GenState) (x y : GenState) (hG : s.gens = G.push x) : s.setGen G.size y = { s with gens := G.push y } := by
  unfold Shared.setGen
  rw [hG]
  congr 1
  apply Array.ext
  · simp
  · intro i h1 h2
    simp only [Array.size_setIfInBounds, Array.size_push] at h1
    by_cases hi : i = G.size
    · subst hi; simp
    · have : i < G.size := by omega
      have h3 : i < (G.push x).size := by rw [Array.size_push]; exact h1
      rw [Array.getElem_setIfInBounds_ne h3 (Ne.symm hi), Array.getElem_push_lt this, Array.getElem_push_lt this]
end
end Mine
end
section
open PySem PySem.W PySem.Calls PyProof.Rows
set_option maxRecDepth 100000
namespace Mine
theorem chC2 {s₀ s s' : Shared} {L : Addr} {m cm : Str → Option Value} {X : List Addr} (x : InCallC s₀ L m [] cm s) (c : Ch [] X s s') (h0 : ∀ b ∈ X, s₀.heap.get? b = none) (hL : L ∉ X) : InCallC s₀ L m [] cm s' := by
  have kp : ∀ b o, b ∉ X → s.heap.get? b = some o → s'.heap.get? b = some o := fun b o q e => c.get q List.not_mem_nil e
  obtain ⟨h', tk, rfl, k⟩ := c
  obtain ⟨h, t, rfl⟩ := x.toInCall.same
  refine ⟨⟨⟨h', tk, rfl⟩, ns_keep (fun o e => kp _ o hL e) x.toInCall.ns, fun b o e => kp b o (fun q => ?_) (x.toInCall.keep b o e), x.toInCall.fresh⟩, nofun, x.apart, nofun⟩
  have := h0 b q
  rw [this] at e; cases e
set_option maxHeartbeats 2000000 in
theorem walked_c {w : World} {A : Around} {s : Shared} {Q : Value → Shared → Prop} {E : Value → Shared → Prop} {l : Addr} {R : List Int} {e : Nat} (T : TopOk s.heap) (hA : Ok A 3) (hl : IsInts s.heap l R) (hR : R.length = 6) (he1 : 1 ≤ e) (he5 : e ≤ 5) (hz : R.getD e 0 = 0 ∨ R.getD e 0 = 127) (hbef : ∀ k, k < e → R.getD k 0 ≠ 0 ∧ R.getD k 0 ≠ 127)
    (h : ∀ D h' tk G, (∀ b o, s.heap.get? b = some o → h'.get? b = some o) → G.bare = true → s.heap.get? D = none → IsInts h' D (walkedAt R e) → Q (.ref D) { s with heap := h', toks := tk, gens := s.gens.push G }) :
    wpAny (MM w) A (call (.ref 63) [.ref l]) Q E s := by
  refine enter (k := 12) (c := 62) (binds := [("row", .ref l)]) T hA rfl (fun _ _ => rfl) (fun N x hx => ?_) ⟨rfl, rfl, rfl⟩ fun s₁ x => ?_
  · rw [List.mem_singleton.mp hx]
    exact .inl rfl
  · have hA' : Ok (A.deeper (envK 12 62 63 s.heap.objs.size)) 2 := hA.deeper
    refine wpAny_execs_cons (wpAny_Assign_Name (wpAny_List_spliced (argEnd ⟨by decide, ?_⟩)))
    have k₂ := Keeps.push s₁ { cls := .type "list", data := .seq ([] : List Value).toArray }
    have x₂ := stepC x k₂
    have D_s : s.heap.get? s₁.heap.objs.size = none := not_old (fun b o e => Keeps.get (keptC x) e) (Nat.le_refl _)
    have hD₂ : IsInts (s₁.heap.push { cls := .type "list", data := .seq ([] : List Value).toArray }) s₁.heap.objs.size [] := IsInts.new _ .nil
    generalize hs₂ : ({ s₁ with heap := s₁.heap.push { cls := .type "list", data := .seq ([] : List Value).toArray } } : Shared) = s₂ at *
    have hD₂' : IsInts s₂.heap s₁.heap.objs.size [] := by rw [← hs₂]; exact hD₂
    generalize s₁.heap.objs.size = D at *
    refine storeL x₂ fun s₃ x₃ k₃ hg₃ => ?_
    have hD₃ := hD₂'.locals x₂.toInCall.ns k₃
    have T₃ := topC x₃ T
    have gens₃ : s₃.gens = s.gens := by
      obtain ⟨_, _, q⟩ := x₃.toInCall.same
      rw [q]
    refine wpAny_execs_cons (wpAny_For (callFn T₃ rfl (arg (nameL x₃ rfl (argEnd ⟨T₃, genCall T₃ hA' fun a h₄ tk₄ mg hk₄ hns₄ hm₄ hgen₄ ha₄ => ?_⟩)))))
    refine wpAny_pyIter_gen hgen₄ ?_
    have hLs : s.heap.objs.size < s₃.heap.objs.size := by
      obtain ⟨o, _, _, q, _⟩ := x₃.toInCall.ns
      exact Heap.lt_size q
    generalize hLg : s₃.heap.objs.size = Lg at *
    have hLg110 : 110 ≤ Lg := by rw [← hLg]; exact T₃.size
    have LgL : s.heap.objs.size ≠ Lg := Nat.ne_of_lt hLs
    have old : ∀ b, Lg ≤ b → s.heap.get? b = none := fun b hb => Heap.get?_none_of_le (Nat.le_trans (Nat.le_of_lt hLs) hb)
    have x₄ := gensC (stepC x₃ (Keeps.mk (t := tk₄) hk₄)) (s.gens.push (.fresh (.func (fnBody 9) (gEnv Lg))))
    have hD₄ : IsInts h₄ D [] := hD₃.keep hk₄
    rw [gens₃] at hgen₄ ⊢
    have T₄ : TopOk h₄ := T₃.keep (KeepH.of hk₄)
    have hl₄ : IsInts h₄ l R := (hl.keeps (keptC x₃)).keep hk₄
    obtain ⟨Inv, hInv⟩ : ∃ Inv : Nat → Shared → Prop, ∀ j s', Inv j s' ↔ ∃ i mm gs, j = 10 - i ∧ i < 10 ∧ mm "sizes" = some (.ref D) ∧ s'.gens = s.gens.push gs ∧ InCallC { s with gens := s.gens.push gs } s.heap.objs.size mm [] (bindC (envK 12 62 63 s.heap.objs.size).kindOf [("row", .ref l)] fun _ => none) s' ∧ gs.bare = true ∧
      IsInts s'.heap D ((List.range i).map (outAt R e)) ∧ s'.heap.IsGen a s.gens.size ∧ TopOk s'.heap ∧ gs.Goes (MM w) (A.deeper (envK 12 62 63 s.heap.objs.size)).in1 (RR R e Lg l) (YY R e Lg l) (10 - i) (.send .none) (s'.setGen s.gens.size .running) := ⟨_, fun _ _ => Iff.rfl⟩
    refine codeAny_forLoop Inv ?_ 10 ((hInv _ _).mpr ⟨0, _, _, rfl, by omega, rfl, rfl, x₄, rfl, hD₄, hgen₄, T₄, ?_⟩)
    · intro j s₅ hi₅
      obtain ⟨i, mm, gs, rfl, hi, hmm, hgens, x₅, hbare, hD₅, hgen₅, T₅, hgo⟩ := (hInv _ _).mp hi₅
      clear hi₅
      have hrun := setGen_push s₅ s.gens gs .running hgens
      obtain ⟨n, hn⟩ : ∃ n, 10 - i = n + 1 := ⟨9 - i, by omega⟩
      rw [hn] at hgo
      refine nextGen hA'.hh T₅.lim hA'.room hgen₅ (by rw [hgens]; simp) hgo (fun v s₆ gs' hb' hY => gen2 fun R₁ F₁ hR₁ => ?_) fun s₆ hP h' hk' => ?_
      · obtain ⟨⟨t, rfl⟩, h127, it, hch, hit, ⟨jj, hjj⟩, hnext⟩ := hY
        have hni : 9 - (n + 1 - 1) = i := by clear hnext h127; omega
        rw [hni] at h127
        rw [hni]
        have i10 : i + 1 ≤ 10 := hi
        have l10 : ∀ j, j ≤ 10 → ((List.range j).map (outAt R e)).length ≤ 10 := fun j hj => by rw [List.length_map, List.length_range]; exact hj
        have two0 : ∀ b ∈ [Lg, it], s.heap.get? b = none := two (P := fun b => s.heap.get? b = none) (old _ (Nat.le_refl _)) (old _ (Nat.le_of_lt hit.1))
        have itne : ∀ {b : Addr}, b < Lg → b ∉ [Lg, it] := fun hb q => by
          rcases List.mem_cons.mp q with rfl | q
          · exact absurd hb (Nat.lt_irrefl _)
          · rw [List.mem_singleton.mp q] at hb
            exact absurd (Nat.lt_trans hb hit.1) (Nat.lt_irrefl _)
        have hDL : D < Lg := by
          obtain ⟨o, q⟩ := hD₃.there
          rw [← hLg]; exact Heap.lt_size q
        have LD : s.heap.objs.size ≠ D := by
          rintro rfl
          obtain ⟨o, _, _, e1, d, _⟩ := x₃.toInCall.ns
          obtain ⟨vs, n, e2, _⟩ := hD₃
          have e3 : s₃.heap.get? (envK 12 62 63 s.heap.objs.size).locals = some _ := e2
          rw [e3] at e1; cases e1; cases d
        have hane : a ∉ [Lg, it] := fun q => by
          rcases List.mem_cons.mp q with rfl | q
          · exact absurd ha₄ (Nat.lt_irrefl _)
          · obtain ⟨o, nm, qn, e1, e2, _⟩ := hgen₅
            rw [List.mem_singleton.mp q] at e1
            rcases hit.2 with q' | ⟨j', o', e3, e4, _⟩
            · have q'' : s₅.heap.get? it = none := q'
              rw [e1] at q''; cases q''
            · have e3' : s₅.heap.get? it = some o' := e3
              rw [e1] at e3'; cases e3'
              rw [e2] at e4; simp at e4
        have x₅r : InCallC { s with gens := s.gens.push .running } s.heap.objs.size mm [] (bindC (envK 12 62 63 s.heap.objs.size).kindOf [("row", .ref l)] fun _ => none) (s₅.setGen s.gens.size .running) := by
          rw [hrun]
          exact gensC x₅ _
        have x₆ := chC2 x₅r hch two0 (itne hLs)
        have g₆ : s₆.gens = s.gens.push .running := by
          obtain ⟨_, _, q⟩ := x₆.toInCall.same
          rw [q]
        rw [setGen_push s₆ s.gens .running gs' g₆]
        have x₇ := gensC x₆ (s.gens.push gs')
        have hD₆ : IsInts s₆.heap D ((List.range i).map (outAt R e)) := IsInts.ch (s := s₅.setGen s.gens.size .running) hD₅ hch (itne hDL) (by simp)
        have hgen₆ : s₆.heap.IsGen a s.gens.size := by
          obtain ⟨o, nm, qn, e1, r⟩ := hgen₅
          exact ⟨o, nm, qn, hch.get (s := s₅.setGen s.gens.size .running) hane (by simp) e1, r⟩
        have T₆ : TopOk s₆.heap := Ch.low (s := s₅.setGen s.gens.size .running) hch T₅ nofun (two (P := fun b => 110 ≤ b) hLg110 (Nat.le_trans hLg110 (Nat.le_of_lt hit.1)))
        refine wpAny_assign_Name (storeL (env := envK 12 62 63 s.heap.objs.size) x₇ fun s₈ x₈ k₈ g₈ => hR₁ _ _ (gen2 fun R₂ F₂ hR₂ => ?_))
        clear hR₁
        have hD₈ : IsInts s₈.heap D ((List.range i).map (outAt R e)) := IsInts.locals (s := { s₆ with gens := s.gens.push gs' }) hD₆ x₇.toInCall.ns k₈
        have T₈ : TopOk s₈.heap := topC x₈ T
        refine wpAny_execs_cons (wpAny_Expr (appendInts (nameL (env := envK 12 62 63 s.heap.objs.size) x₈ hmm ⟨D, rfl, ⟨_, hD₈⟩, nameL (env := envK 12 62 63 s.heap.objs.size) x₈ rfl ⟨_, _, t, rfl, hD₈, Nat.lt_of_le_of_lt (l10 i (Nat.le_of_lt hi)) (by decide), fun s₉ c₉ hD₉ => ?_⟩⟩)))
        have x₉ := chC2 x₈ c₉ (one (P := fun b => s.heap.get? b = none) D_s) (fun q => LD (List.mem_singleton.mp q))
        have T₉ : TopOk s₉.heap := topC x₉ T
        have hD₉' : IsInts s₉.heap D ((List.range (i + 1)).map (outAt R e)) := by rw [List.range_succ, List.map_append]; exact hD₉
        refine wpAny_execs_cons (wpAny_If (wpAny_isTrue_Compare1 (callBu T₉ rfl (arg (nameL (env := envK 12 62 63 s.heap.objs.size) x₉ hmm (argEnd (lenInts hD₉' (Nat.le_trans (l10 _ i10) (by decide)) fun tl s₁₀ k₁₀ => wpAny_Constant_int (eq_int (wpAny_truthy_bool ?_)))))))))
        have k₁₁ := Keeps.trans k₁₀ (Keeps.tok s₁₀ (s₁₀.toks + 1))
        have x₁₁ := stepC x₉ k₁₁
        have hD₁₁ := hD₉'.keeps k₁₁
        have hlen : ((((List.range (i + 1)).map (outAt R e)).length : Nat) : Int) = ((i + 1 : Nat) : Int) := by simp
        rw [hlen]
        by_cases hi9 : i = 9
        · subst hi9
          show if ((10 : Nat) : Int) == 10 then _ else _
          rw [if_pos (by decide)]
          refine wpAny_execs_cons (wpAny_Break ?_)
          refine hR₂ _ _ ?_
          refine wpAny_execs_cons (wpAny_Return_some (nameL (env := envK 12 62 63 s.heap.objs.size) x₁₁ hmm ?_))
          have hne : R.getD e 0 ≠ 127 := fun q => absurd (Nat.lt_of_lt_of_le (h127 q) he5) (by decide)
          have keep := x₁₁.toInCall.keep
          obtain ⟨hh, tt, q⟩ := x₁₁.toInCall.same
          rw [q] at hD₁₁ keep ⊢
          refine h D hh tt gs' keep hb' D_s ?_
          rw [walkedAt, if_neg hne]
          exact hD₁₁
        · have hb : (((i + 1 : Nat) : Int) == 10) = false := by
            rw [beq_eq_false_iff_ne]; clear hnext h127; omega
          rw [hb]
          show if false = true then _ else _
          rw [if_neg (by decide)]
          refine wpAny_execs_nil (wpAny_execs_nil ?_)
          have kall : ∀ b o, b ≠ s.heap.objs.size → b ≠ D → s₆.heap.get? b = some o → s₁₀.heap.get? b = some o := fun b o h1 h2 q => Keeps.get k₁₀ (c₉.get (by simpa using h2) (by simp) (k₈ b o h1 q))
          have T₁₀ : TopOk s₁₀.heap := T₉.keeps k₁₀
          have haL : s.heap.objs.size < a := Nat.lt_trans hLs ha₄
          have haD : D < a := Nat.lt_trans hDL ha₄
          have g₁₁ : s₁₀.gens = s.gens.push gs' := by
            obtain ⟨_, _, q⟩ := (stepC x₉ k₁₀).toInCall.same
            rw [q]
          have hgen₁₁ : s₁₀.heap.IsGen a s.gens.size := by
            obtain ⟨o, nm, qn, e1, r⟩ := hgen₆
            exact ⟨o, nm, qn, kall a o (Nat.ne_of_gt haL) (Nat.ne_of_gt haD) e1, r⟩
          refine hR₂ _ _ ⟨10 - (i + 1), Nat.sub_lt_sub_left hi (Nat.lt_succ_self i), (hInv _ _).mpr ⟨i + 1, (fun y => if y = "size" then some (.int (outAt R e i) t) else mm y), gs', rfl, Nat.lt_of_le_of_ne hi (fun q => hi9 (Nat.succ.inj q)), hmm, g₁₁, x₁₁, hb', hD₁₁, hgen₁₁, T₁₀, ?_⟩⟩
          rw [show 10 - (i + 1) = n by rw [← Nat.sub_sub, hn]; rfl]
          refine hnext (by clear hnext h127; omega) _ (fun b hb o q => ?_) T₁₀
          obtain ⟨ol, hol⟩ := hl.there
          rcases List.mem_cons.mp hb with rfl | hb
          · exact kall _ o (Ne.symm LgL) (Nat.ne_of_gt hDL) q
          · rcases List.mem_cons.mp hb with rfl | hb
            · exact kall _ o (Nat.ne_of_lt (Heap.lt_size hol)) (fun q' => by rw [q', D_s] at hol; cases hol) q
            · rw [List.mem_singleton.mp hb] at q ⊢
              exact kall _ o (Nat.ne_of_gt (Nat.lt_trans hLs hit.1)) (Nat.ne_of_gt (Nat.lt_trans hDL hit.1)) q
      · obtain ⟨hne, h127, it, hch, hit⟩ := hP
        obtain rfl : i = e := by omega
        have two0 : ∀ b ∈ [Lg, it], s.heap.get? b = none := two (P := fun b => s.heap.get? b = none) (old _ (Nat.le_refl _)) (old _ (Nat.le_of_lt hit.1))
        have itne : ∀ {b : Addr}, b < Lg → b ∉ [Lg, it] := fun hb q => by
          rcases List.mem_cons.mp q with rfl | q
          · exact absurd hb (Nat.lt_irrefl _)
          · rw [List.mem_singleton.mp q] at hb
            exact absurd (Nat.lt_trans hb hit.1) (Nat.lt_irrefl _)
        have hDL : D < Lg := by
          obtain ⟨o, q⟩ := hD₃.there
          rw [← hLg]; exact Heap.lt_size q
        have x₅r : InCallC { s with gens := s.gens.push .running } s.heap.objs.size mm [] (bindC (envK 12 62 63 s.heap.objs.size).kindOf [("row", .ref l)] fun _ => none) (s₅.setGen s.gens.size .running) := by
          rw [hrun]
          exact gensC x₅ _
        have x₆ := chC2 x₅r hch two0 (itne hLs)
        have g₆ : s₆.gens = s.gens.push .running := by
          obtain ⟨_, _, q⟩ := x₆.toInCall.same
          rw [q]
        rw [setGen_push s₆ s.gens .running .finished g₆]
        have x₇ := gensC x₆ (s.gens.push .finished)
        have hD₆ : IsInts s₆.heap D ((List.range i).map (outAt R i)) := IsInts.ch (s := s₅.setGen s.gens.size .running) hD₅ hch (itne hDL) (by simp)
        have k₈ : Keeps { s₆ with gens := s.gens.push .finished } { s₆ with gens := s.gens.push .finished, heap := h' } := ⟨h', s₆.toks, rfl, hk'⟩
        have x₈ := stepC x₇ k₈
        have hD₈ : IsInts h' D ((List.range i).map (outAt R i)) := hD₆.keep hk'
        refine wpAny_execs_nil (wpAny_execs_cons (wpAny_Return_some (nameL (env := envK 12 62 63 s.heap.objs.size) x₈ hmm ?_)))
        have keep : ∀ b o, s.heap.get? b = some o → h'.get? b = some o := x₈.toInCall.keep
        obtain ⟨hh, tt, q⟩ := x₆.toInCall.same
        subst q
        refine h D h' tt .finished keep rfl D_s ?_
        rw [walkedAt, if_pos h127]
        exact hD₈
    · have := genStart (w := w) (A := (A.deeper (envK 12 62 63 s.heap.objs.size)).in1) (s := ({ s₃ with heap := h₄, toks := tk₄, gens := s.gens.push (.fresh (.func (fnBody 9) (gEnv Lg))) } : Shared).setGen s.gens.size .running) hA'.hh hLg110 hR he1 he5 hz hbef hns₄ hm₄ T₄ hl₄
      exact this
end Mine
end
section
open PySem PySem.W PySem.Calls PyProof.Rows
set_option maxRecDepth 100000
namespace Mine

theorem walked_told {R : List Int} {e : Nat} (hn : R.length = 6) (h1 : 1 ≤ e) (h5 : e ≤ 5) (he : R.getD e 0 = 0 ∨ R.getD e 0 = 127) : walkedAt R e = toldAt R e := by
  match R, hn with
  | [a, b, c, d, f, g], _ =>
    match e, h1, h5 with
    | 1, _, _ => rcases he with he | he <;> (have he' : b = _ := he; subst he'; rfl)
    | 2, _, _ => rcases he with he | he <;> (have he' : c = _ := he; subst he'; rfl)
    | 3, _, _ => rcases he with he | he <;> (have he' : d = _ := he; subst he'; rfl)
    | 4, _, _ => rcases he with he | he <;> (have he' : f = _ := he; subst he'; rfl)
    | 5, _, _ => rcases he with he | he <;> (have he' : g = _ := he; subst he'; rfl)

/-- elements beyond what c allows, in order -/
def bey : (Int → Nat) → List Int → List Int
  | _, [] => []
  | c, x :: l => if c x = 0 then x :: bey c l else bey (fun y => if y = x then c y - 1 else c y) l

theorem often_cons (y x : Int) (l : List Int) : often y (x :: l) = (if x = y then 1 else 0) + often y l := by
  unfold often
  rw [List.filter_cons]
  by_cases h : x = y
  · simp [h]; omega
  · simp [h]
theorem often_app (y : Int) (l l' : List Int) : often y (l ++ l') = often y l + often y l' := by
  unfold often; simp
theorem often_erase {x : Int} {l : List Int} (hx : x ∈ l) (y : Int) : often y (l.erase x) = if y = x then often y l - 1 else often y l := by
  induction l with
  | nil => cases hx
  | cons z l ih =>
    by_cases hz : z = x
    · subst hz
      rw [List.erase_cons_head, often_cons]
      by_cases hy : y = z
      · simp [hy]
      · have : z ≠ y := fun q => hy q.symm
        simp [hy, this]
    · rw [List.erase_cons_tail (by simpa using hz), often_cons, often_cons]
      have hm : x ∈ l := by
        rcases List.mem_cons.mp hx with q | q
        · exact absurd q.symm hz
        · exact q
      have hp : 0 < often x l := by
        unfold often
        exact List.length_pos_of_mem (List.mem_filter.mpr ⟨hm, by simp⟩)
      rw [ih hm]
      by_cases hy : y = x
      · subst hy; simp [hz]
      · simp [hy]
theorem often_pos {x : Int} {l : List Int} : 0 < often x l ↔ x ∈ l := by
  unfold often
  rw [List.length_pos_iff_exists_mem]
  constructor
  · rintro ⟨a, ha⟩
    have := List.mem_filter.mp ha
    simp at this
    exact this.2 ▸ this.1
  · intro h; exact ⟨x, List.mem_filter.mpr ⟨h, by simp⟩⟩
theorem bey_congr : ∀ {l : List Int} {c c' : Int → Nat}, (∀ y, c y = c' y) → bey c l = bey c' l
  | l, c, c', h => by rw [funext h]
theorem bey_zero : ∀ {l : List Int} {c : Int → Nat}, (∀ y ∈ l, c y = 0) → bey c l = l
  | [], _, _ => rfl
  | x :: l, c, h => by rw [bey, if_pos (h x (.head _)), bey_zero fun y hy => h y (.tail _ hy)]
theorem bey_more : ∀ (l : List Int) (c : Int → Nat) (x : Int), bey (fun y => if y = x then c y + 1 else c y) l = if x ∈ l then bey c (l.erase x) else bey c l
  | [], c, x => by simp [bey]
  | z :: l, c, x => by
    by_cases hz : z = x
    · subst hz
      rw [if_pos (List.mem_cons_self ..), List.erase_cons_head, bey, if_neg (by simp)]
      exact bey_congr fun y => by by_cases h : y = z <;> simp [h]
    · have hzx : x ≠ z := fun q => hz q.symm
      rw [bey, if_neg hz, List.erase_cons_tail (by simpa using hz)]
      have hm : x ∈ z :: l ↔ x ∈ l := by simp [hzx]
      by_cases h0 : c z = 0
      · rw [if_pos h0, bey_more l c x]
        by_cases hx : x ∈ l
        · rw [if_pos hx, if_pos (hm.mpr hx), bey, if_pos h0]
        · rw [if_neg hx, if_neg (fun q => hx (hm.mp q)), bey, if_pos h0]
      · rw [if_neg h0]
        have e : bey (fun y => if y = z then (if y = x then c y + 1 else c y) - 1 else if y = x then c y + 1 else c y) l = bey (fun y => if y = x then (if y = z then c y - 1 else c y) + 1 else if y = z then c y - 1 else c y) l :=
          bey_congr fun y => by by_cases h1 : y = z <;> by_cases h2 : y = x <;> simp_all
        rw [e, bey_more l (fun y => if y = z then c y - 1 else c y) x]
        by_cases hx : x ∈ l
        · rw [if_pos hx, if_pos (hm.mpr hx), bey, if_neg h0]
        · rw [if_neg hx, if_neg (fun q => hx (hm.mp q)), bey, if_neg h0]
theorem uldGo_bey : ∀ (r M A : List Int), uldGo r M A = (M ++ bey (fun y => often y A) r, bey (fun y => often y r) A)
  | [], M, A => by
    rw [uldGo, bey, List.append_nil, bey_zero (c := fun y => often y []) (fun _ _ => rfl)]
  | x :: r, M, A => by
    have e2 : bey (fun y => often y (x :: r)) A = if x ∈ A then bey (fun y => often y r) (A.erase x) else bey (fun y => often y r) A := by
      rw [← bey_more]
      refine bey_congr fun y => ?_
      rw [often_cons]
      by_cases h : y = x
      · subst h; simp; omega
      · have : x ≠ y := fun q => h q.symm
        simp [h, this]
    rw [uldGo, e2]
    by_cases hx : x ∈ A
    · rw [if_pos hx, if_pos hx, uldGo_bey, bey, if_neg (Nat.ne_of_gt (often_pos.mpr hx))]
      rw [bey_congr (fun y => often_erase hx y)]
    · rw [if_neg hx, if_neg hx, uldGo_bey, bey, if_pos (Nat.eq_zero_of_not_pos fun q => hx (often_pos.mp q)), List.append_assoc]
      rfl

theorem upto_map_get (S : List Int) : (upto S.length).map (fun k => S.getD k.toNat 0) = S := by
  apply List.ext_getElem?
  intro i
  simp [upto]
  by_cases h : i < S.length
  · simp [h]
  · simp [h]

theorem beyond_nat (mine yours : List Int) : beyond mine yours = ((List.range mine.length).filter fun k => decide (often (mine.getD k 0) (mine.take (k + 1)) > often (mine.getD k 0) yours)).map fun k => mine.getD k 0 := by
  unfold beyond upto
  rw [List.filter_map, List.map_map]
  rfl
theorem beyond_pre (yours : List Int) : ∀ (l pre : List Int), ((List.range l.length).filter fun k => decide (often (l.getD k 0) (pre ++ l.take (k + 1)) > often (l.getD k 0) yours)).map (fun k => l.getD k 0) = bey (fun x => often x yours - often x pre) l
  | [], _ => rfl
  | x :: l, pre => by
    rw [List.length_cons, List.range_succ_eq_map, List.filter_cons]
    have ih := beyond_pre yours l (pre ++ [x])
    have tail : (((List.range l.length).map Nat.succ).filter fun k => decide (often ((x :: l).getD k 0) (pre ++ (x :: l).take (k + 1)) > often ((x :: l).getD k 0) yours)).map (fun k => (x :: l).getD k 0) = bey (fun y => often y yours - often y (pre ++ [x])) l := by
      rw [← ih, List.filter_map, List.map_map]
      congr 1
      refine List.filter_congr fun k _ => ?_
      simp
    have hx : often x (pre ++ [x]) = often x pre + 1 := by rw [often_app, often_cons]; simp [often]
    have hy : ∀ y, y ≠ x → often y (pre ++ [x]) = often y pre := fun y h => by
      rw [often_app, often_cons]
      have : x ≠ y := fun q => h q.symm
      simp [this, often]
    have hd : decide (often ((x :: l).getD 0 0) (pre ++ (x :: l).take (0 + 1)) > often ((x :: l).getD 0 0) yours) = decide (often x pre + 1 > often x yours) := by
      show decide (often x (pre ++ [x]) > often x yours) = _
      rw [hx]
    rw [hd, bey]
    by_cases h : often x pre + 1 > often x yours
    · rw [if_pos (by simpa using h), if_pos (by omega), List.map_cons, tail]
      refine congrArg (x :: ·) (bey_congr fun y => ?_)
      by_cases q : y = x
      · subst q; rw [hx]; omega
      · rw [hy y q]
    · rw [if_neg (by simpa using h), if_neg (by omega), tail]
      refine bey_congr fun y => ?_
      by_cases q : y = x
      · subst q; rw [hx, if_pos rfl]; omega
      · rw [hy y q, if_neg q]
theorem beyond_bey (mine yours : List Int) : beyond mine yours = bey (fun x => often x yours) mine := by
  rw [beyond_nat]
  have h := beyond_pre yours mine []
  simp only [List.nil_append] at h
  rw [h]
  exact bey_congr fun y => by simp [often]
theorem often_rev (y : Int) (l : List Int) : often y l.reverse = often y l := by
  unfold often; rw [List.filter_reverse, List.length_reverse]
theorem uld_beyond (S A : List Int) : uldGo S.reverse [] A = (beyond S.reverse A, beyond A S) := by
  rw [uldGo_bey, beyond_bey, beyond_bey, List.nil_append]
  rw [bey_congr (fun y => often_rev y S)]
end Mine
end
section
open PySem PySem.W PySem.Calls PyProof.Rows
set_option maxRecDepth 100000
namespace Mine
section
variable {D k : Int}
theorem pow_pos (hD : 2 ≤ D) : ∀ e : Nat, 0 < D ^ e
  | 0 => by simp
  | e + 1 => by
    rw [Int.pow_succ]
    have := pow_pos hD e
    exact Int.mul_pos this (by omega)
theorem pow_mono (hD : 2 ≤ D) {e f : Nat} (h : e ≤ f) : D ^ e ≤ D ^ f := by
  induction h with
  | refl => exact Int.le_refl _
  | @step m _ ih =>
    rw [Nat.succ_eq_add_one, Int.pow_succ]
    have h1 := pow_pos hD m
    have h2 : D ^ m * 1 ≤ D ^ m * D := Int.mul_le_mul_of_nonneg_left (by omega) (by omega)
    omega
theorem pow_lt (hD : 2 ≤ D) {e f : Nat} (h : e < f) : D ^ e < D ^ f := by
  have h1 : D ^ (e + 1) ≤ D ^ f := pow_mono hD h
  have h0 := pow_pos hD e
  have h2 : D ^ e * 2 ≤ D ^ e * D := Int.mul_le_mul_of_nonneg_left hD (by omega)
  rw [Int.pow_succ] at h1
  omega
theorem kpow_lt (hD : 2 ≤ D) (hk : 0 < k) {e f : Nat} : k * D ^ e < k * D ^ f ↔ e < f := by
  constructor
  · intro h
    rcases Nat.lt_or_ge e f with q | q
    · exact q
    · have := Int.mul_le_mul_of_nonneg_left (pow_mono hD q) (Int.le_of_lt hk)
      omega
  · intro h
    exact Int.mul_lt_mul_of_pos_left (pow_lt hD h) hk
theorem sum_split (p q : Int → Bool) : ∀ B : List Int, (B.filter p).sum = (B.filter (fun y => p y && q y)).sum + (B.filter (fun y => p y && !q y)).sum
  | [] => rfl
  | y :: B => by
    have ih := sum_split p q B
    rw [List.filter_cons, List.filter_cons, List.filter_cons]
    cases hp : p y <;> cases hq : q y <;> simp [ih] <;> omega
theorem sum_count (a : Int) : ∀ B : List Int, (B.filter (fun y => y == a)).sum = (B.count a : Int) * a
  | [] => by simp
  | y :: B => by
    have ih := sum_count a B
    rw [List.filter_cons, List.count_cons]
    by_cases h : y = a
    · subst h
      simp only [beq_self_eq_true, if_true, List.sum_cons, ih, Int.natCast_add, Int.add_mul]
      simp; omega
    · have : (y == a) = false := by simpa using h
      simp [this, ih]
theorem sum_dvd {m : Int} : ∀ {B : List Int}, (∀ y ∈ B, m ∣ y) → m ∣ B.sum
  | [], _ => by simp
  | y :: B, h => by
    rw [List.sum_cons]
    exact Int.dvd_add (h y (.head _)) (sum_dvd fun z hz => h z (.tail _ hz))
theorem sum_nonneg : ∀ {B : List Int}, (∀ y ∈ B, 0 ≤ y) → 0 ≤ B.sum
  | [], _ => by simp
  | y :: B, h => by
    rw [List.sum_cons]
    have h1 := h y (.head _)
    have h2 := sum_nonneg fun z hz => h z (.tail _ hz)
    omega
theorem perm_sum {B B' : List Int} (h : B.Perm B') : B.sum = B'.sum := by
  induction h with
  | nil => rfl
  | cons x _ ih => simp [ih]
  | swap x y l => simp; omega
  | trans _ _ i1 i2 => exact i1.trans i2

def V (D k : Int) (B : List Int) : Int := (B.filter (fun y => kern D y == k)).sum
def Good (D : Int) (B : List Int) : Prop := ∀ x, (B.count x : Int) ≤ D - 1
def Val (D : Int) (B : List Int) : Prop := ∀ x ∈ B, ∃ k, IsKern D x k ∧ k ≤ 12
theorem V_app (B B' : List Int) : V D k (B ++ B') = V D k B + V D k B' := by unfold V; simp
theorem V_perm {B B' : List Int} (h : B.Perm B') : V D k B = V D k B' := perm_sum (h.filter _)
theorem V_one (x : Int) : V D k [x] = if kern D x = k then x else 0 := by
  unfold V
  by_cases h : kern D x = k <;> simp [h]
theorem V_cons (x : Int) (B : List Int) : V D k (x :: B) = (if kern D x = k then x else 0) + V D k B := by
  have := V_app (D := D) (k := k) [x] B
  rw [V_one] at this
  exact this

theorem low_lt (hD : 2 ≤ D) (hk : 0 < k) {B : List Int} (hG : Good D B) (hV : ∀ y ∈ B, kern D y = k → ∃ e : Nat, y = k * D ^ e) : ∀ j : Nat, (B.filter (fun y => kern D y == k && decide (y < k * D ^ j))).sum < k * D ^ j
  | 0 => by
    have : B.filter (fun y => kern D y == k && decide (y < k * D ^ 0)) = [] := by
      rw [List.filter_eq_nil_iff]
      intro y hy q
      simp only [Bool.and_eq_true, beq_iff_eq, decide_eq_true_eq] at q
      obtain ⟨e, he⟩ := hV y hy q.1
      rw [he] at q
      have := (kpow_lt hD hk).mp q.2
      omega
    rw [this]; simp; exact hk
  | j + 1 => by
    have ih := low_lt hD hk hG hV j
    have e1 := sum_split (fun y => kern D y == k && decide (y < k * D ^ (j + 1))) (fun y => decide (y < k * D ^ j)) B
    have e2 : B.filter (fun y => (kern D y == k && decide (y < k * D ^ (j + 1))) && decide (y < k * D ^ j)) = B.filter (fun y => kern D y == k && decide (y < k * D ^ j)) := by
      refine List.filter_congr fun y hy => ?_
      by_cases h1 : kern D y = k
      · obtain ⟨e, he⟩ := hV y hy h1
        have a1 := kpow_lt hD hk (e := e) (f := j)
        have a2 := kpow_lt hD hk (e := e) (f := j + 1)
        rw [he] at h1 ⊢
        by_cases q : e < j
        · have q' : e < j + 1 := by omega
          simp [h1, a1.mpr q, a2.mpr q']
        · have : ¬ k * D ^ e < k * D ^ j := fun z => q (a1.mp z)
          simp [this]
      · have : (kern D y == k) = false := by simpa using h1
        simp [this]
    have e3 : B.filter (fun y => (kern D y == k && decide (y < k * D ^ (j + 1))) && !decide (y < k * D ^ j)) = (B.filter fun y => kern D y == k).filter (fun y => y == k * D ^ j) := by
      rw [List.filter_filter]
      refine List.filter_congr fun y hy => ?_
      by_cases h1 : kern D y = k
      · obtain ⟨e, he⟩ := hV y hy h1
        have a1 := kpow_lt hD hk (e := e) (f := j)
        have a2 := kpow_lt hD hk (e := e) (f := j + 1)
        have a3 := kpow_lt hD hk (e := j) (f := e)
        rw [he] at h1 ⊢
        rcases Nat.lt_trichotomy e j with q | q | q
        · have n : k * D ^ e ≠ k * D ^ j := Int.ne_of_lt (a1.mpr q)
          simp [h1, a1.mpr q, n]
        · subst q
          have q' : e < e + 1 := by omega
          simp [h1, a2.mpr q']
        · have n : k * D ^ e ≠ k * D ^ j := Int.ne_of_gt (a3.mpr q)
          have m : ¬ k * D ^ e < k * D ^ (j + 1) := fun z => by have := a2.mp z; omega
          simp [m, n]
      · have : (kern D y == k) = false := by simpa using h1
        simp [this]
    rw [e2, e3, sum_count] at e1
    rw [e1]
    have c1 : (((B.filter fun y => kern D y == k).count (k * D ^ j) : Nat) : Int) ≤ D - 1 := by
      refine Int.le_trans (Int.ofNat_le.mpr ?_) (hG (k * D ^ j))
      exact (List.filter_sublist ..).count_le _
    have p1 : 0 < k * D ^ j := Int.mul_pos hk (pow_pos hD j)
    have m1 := Int.mul_le_mul_of_nonneg_right c1 (Int.le_of_lt p1)
    have m2 : k * D ^ (j + 1) = D * (k * D ^ j) := by rw [Int.pow_succ]; rw [Int.mul_comm D, Int.mul_assoc]
    rw [Int.sub_mul] at m1
    rw [m2]
    omega

theorem digit (hD : 2 ≤ D) {B : List Int} (hG : Good D B) (hV : Val D B) {x : Int} (hx : IsKern D x k) : (B.count x : Int) = (V D k B / x) % D := by
  obtain ⟨hk, hkd, j, rfl⟩ := hx
  have hV' : ∀ y ∈ B, kern D y = k → ∃ e : Nat, y = k * D ^ e := fun y hy q => by
    obtain ⟨k', hk', _⟩ := hV y hy
    have : k' = k := (hk'.eq hD).trans q
    subst this
    exact hk'.2.2
  have hp : 0 < k * D ^ j := Int.mul_pos hk (pow_pos hD j)
  have l1 := low_lt hD hk hG hV' j
  have e0 := sum_split (fun y => kern D y == k) (fun y => decide (y < k * D ^ (j + 1))) B
  have hdv : k * D ^ (j + 1) ∣ (B.filter (fun y => kern D y == k && !decide (y < k * D ^ (j + 1)))).sum := by
    refine sum_dvd fun y hy => ?_
    have hm := List.mem_filter.mp hy
    simp only [Bool.and_eq_true, beq_iff_eq, Bool.not_eq_true', decide_eq_false_iff_not] at hm
    obtain ⟨e, rfl⟩ := hV' y hm.1 hm.2.1
    have : ¬ e < j + 1 := fun q => hm.2.2 ((kpow_lt hD hk).mpr q)
    obtain ⟨f, rfl⟩ : ∃ f, e = j + 1 + f := ⟨e - (j + 1), by omega⟩
    have e9 : k * D ^ (j + 1 + f) = k * D ^ (j + 1) * D ^ f := by rw [Int.pow_add D (j + 1) f, Int.mul_assoc]
    rw [e9]
    exact Int.dvd_mul_right ..
  have e1 := sum_split (fun y => kern D y == k && decide (y < k * D ^ (j + 1))) (fun y => decide (y < k * D ^ j)) B
  have e2 : B.filter (fun y => (kern D y == k && decide (y < k * D ^ (j + 1))) && decide (y < k * D ^ j)) = B.filter (fun y => kern D y == k && decide (y < k * D ^ j)) := by
    refine List.filter_congr fun y hy => ?_
    by_cases h1 : kern D y = k
    · obtain ⟨e, he⟩ := hV' y hy h1
      have a1 := kpow_lt hD hk (e := e) (f := j)
      have a2 := kpow_lt hD hk (e := e) (f := j + 1)
      rw [he] at h1 ⊢
      by_cases q : e < j
      · have q' : e < j + 1 := by omega
        simp [h1, a1.mpr q, a2.mpr q']
      · have : ¬ k * D ^ e < k * D ^ j := fun z => q (a1.mp z)
        simp [this]
    · have : (kern D y == k) = false := by simpa using h1
      simp [this]
  have hkx : kern D (k * D ^ j) = k := (IsKern.eq (n := k * D ^ j) hD ⟨hk, hkd, j, rfl⟩).symm
  have e3 : B.filter (fun y => (kern D y == k && decide (y < k * D ^ (j + 1))) && !decide (y < k * D ^ j)) = B.filter (fun y => y == k * D ^ j) := by
    refine List.filter_congr fun y hy => ?_
    by_cases h1 : kern D y = k
    · obtain ⟨e, he⟩ := hV' y hy h1
      have a1 := kpow_lt hD hk (e := e) (f := j)
      have a2 := kpow_lt hD hk (e := e) (f := j + 1)
      have a3 := kpow_lt hD hk (e := j) (f := e)
      rw [he] at h1 ⊢
      rcases Nat.lt_trichotomy e j with q | q | q
      · have n : k * D ^ e ≠ k * D ^ j := Int.ne_of_lt (a1.mpr q)
        simp [h1, a1.mpr q, n]
      · subst q
        have q' : e < e + 1 := by omega
        simp [h1, a2.mpr q']
      · have n : k * D ^ e ≠ k * D ^ j := Int.ne_of_gt (a3.mpr q)
        have m : ¬ k * D ^ e < k * D ^ (j + 1) := fun z => by have := a2.mp z; omega
        simp [m, n]
    · have : (kern D y == k) = false := by simpa using h1
      have n : (y == k * D ^ j) = false := by
        rw [beq_eq_false_iff_ne]
        rintro rfl
        exact h1 hkx
      simp [this, n]
  rw [e2, e3, sum_count] at e1
  obtain ⟨q, hq⟩ := hdv
  have hlow0 : 0 ≤ (B.filter (fun y => kern D y == k && decide (y < k * D ^ j))).sum := by
    refine sum_nonneg fun y hy => ?_
    have hm := List.mem_filter.mp hy
    simp only [Bool.and_eq_true, beq_iff_eq] at hm
    obtain ⟨e, rfl⟩ := hV' y hm.1 hm.2.1
    exact Int.le_of_lt (Int.mul_pos hk (pow_pos hD e))
  have hVv : V D k B = (B.filter (fun y => kern D y == k && decide (y < k * D ^ j))).sum + (k * D ^ j) * ((B.count (k * D ^ j) : Int) + D * q) := by
    unfold V
    rw [e0, e1, hq, Int.pow_succ, Int.mul_add, Int.mul_comm (k * D ^ j) (B.count (k * D ^ j) : Int), ← Int.mul_assoc k, Int.mul_assoc (k * D ^ j) D q]
    omega
  have hc := hG (k * D ^ j)
  rw [hVv, Int.add_mul_ediv_left _ _ (Int.ne_of_gt hp), Int.ediv_eq_zero_of_lt hlow0 l1, Int.zero_add, Int.add_mul_emod_self_left]
  exact (Int.emod_eq_of_lt (by omega) (by omega)).symm

theorem uld_perm : ∀ (r M B : List Int), (uldGo r M B).1 = [] → B.Perm (r ++ (uldGo r M B).2)
  | [], M, B, _ => List.Perm.refl _
  | x :: r, M, B, h => by
    rw [uldGo] at h ⊢
    by_cases hx : x ∈ B
    · rw [if_pos hx] at h ⊢
      exact (List.perm_cons_erase hx).trans ((uld_perm r M _ h).cons x)
    · rw [if_neg hx] at h
      have := (uldGo_len _ _ _ h).1
      simp at this
theorem uld_found (x : Int) : ∀ (m : Nat) (B : List Int), m ≤ B.count x → (uldGo (List.replicate m x) [] B).1 = []
  | 0, _, _ => rfl
  | m + 1, B, h => by
    have hx : x ∈ B := List.count_pos_iff.mp (by omega)
    rw [List.replicate_succ, uldGo, if_pos hx]
    refine uld_found x m _ ?_
    rw [List.count_erase_self]
    omega
theorem V_rep (x : Int) : ∀ m : Nat, V D k (List.replicate m x) = if kern D x = k then m * x else 0
  | 0 => by simp [V]
  | m + 1 => by
    rw [List.replicate_succ, V_cons, V_rep x m]
    by_cases h : kern D x = k
    · simp only [h, if_true, Int.natCast_add, Int.add_mul]; simp; omega
    · simp [h]
theorem IsKern.up {x : Int} (h : IsKern D x k) : IsKern D (x * D) k := by
  obtain ⟨h1, h2, e, rfl⟩ := h
  exact ⟨h1, h2, e + 1, by rw [Int.pow_succ, Int.mul_assoc]⟩
theorem laid_ok {d : Nat} (hd : 2 ≤ d) : ∀ (n : Nat) (B : List Int) (x : Int), B.length ≤ n → Good d B → Val d B → (∃ k, IsKern d x k ∧ k ≤ 12) →
    Good d (laid d n B x) ∧ Val d (laid d n B x) ∧ ∀ k, V d k (laid d n B x) = V d k B + (if kern d x = k then x else 0) := by
  have hD : (2 : Int) ≤ d := by omega
  have app : ∀ (B : List Int) (x : Int), Good d B → Val d B → (∃ k, IsKern d x k ∧ k ≤ 12) → B.count x < d - 1 → Good d (B ++ [x]) ∧ Val d (B ++ [x]) ∧ ∀ k, V d k (B ++ [x]) = V d k B + (if kern d x = k then x else 0) := by
    intro B x hG hV hx hc
    refine ⟨fun y => ?_, fun y hy => ?_, fun k => by rw [V_app, V_one]⟩
    · rw [List.count_append]
      by_cases q : x = y
      · subst q; simp; omega
      · have := hG y
        have h0 : [x].count y = 0 := List.count_eq_zero.mpr (by simpa using fun z : y = x => q z.symm)
        rw [h0]; simpa using this
    · rcases List.mem_append.mp hy with q | q
      · exact hV y q
      · rw [List.mem_singleton.mp q]; exact hx
  intro n
  induction n with
  | zero =>
    intro B x hn hG hV hx
    have : B = [] := List.length_eq_zero_iff.mp (by omega)
    subst this
    exact app [] x hG hV hx (by simp; omega)
  | succ n ih =>
    intro B x hn hG hV hx
    rw [laid]
    split
    · rename_i h
      have hp := uld_perm _ _ _ h
      have hl := (uldGo_len _ _ _ h).2
      generalize (uldGo (List.replicate (d - 1) x) [] B).2 = B₂ at hp hl
      rw [List.length_replicate] at hl
      have hG₂ : Good d B₂ := fun y => by
        have := hG y
        rw [hp.count_eq, List.count_append] at this
        omega
      have hV₂ : Val d B₂ := fun y hy => hV y (hp.mem_iff.mpr (List.mem_append_right _ hy))
      obtain ⟨k₀, hk₀, hk12⟩ := hx
      obtain ⟨g1, g2, g3⟩ := ih B₂ (x * d) (by omega) hG₂ hV₂ ⟨k₀, hk₀.up, hk12⟩
      refine ⟨g1, g2, fun k => ?_⟩
      rw [g3 k, V_perm hp, V_app, V_rep, ← hk₀.up.eq hD, ← hk₀.eq hD]
      by_cases q : k₀ = k
      · simp only [q, if_true]
        have : ((d - 1 : Nat) : Int) = (d : Int) - 1 := by omega
        rw [this, Int.sub_mul, Int.mul_comm x]
        omega
      · simp [q]
    · rename_i h
      refine app B x hG hV hx ?_
      rcases Nat.lt_or_ge (B.count x) (d - 1) with q | q
      · exact q
      · exact absurd (uld_found x _ B q) h
theorem bagOf_ok {d : Nat} (hd : 2 ≤ d) : ∀ (xs B : List Int), Good d B → Val d B → Val d xs → Good d (bagOf d B xs) ∧ Val d (bagOf d B xs) ∧ ∀ k, V d k (bagOf d B xs) = V d k B + V d k xs
  | [], B, hG, hV, _ => ⟨hG, hV, fun k => by simp [bagOf, V]⟩
  | x :: xs, B, hG, hV, hx => by
    obtain ⟨g1, g2, g3⟩ := laid_ok hd B.length B x (Nat.le_refl _) hG hV (hx x (.head _))
    obtain ⟨f1, f2, f3⟩ := bagOf_ok hd xs (lay d B x) g1 g2 fun y hy => hx y (.tail _ hy)
    refine ⟨f1, f2, fun k => ?_⟩
    show V d k (bagOf d (lay d B x) xs) = _
    rw [f3 k, V_cons]
    have := g3 k
    unfold lay
    rw [this]
    omega

theorem digs_kern : ∀ (f : Nat) (left part : Int), IsKern D part k → ∀ y ∈ digs D f left part, IsKern D y k
  | 0, _, _, _, y, hy => by simp [digs] at hy
  | f + 1, left, part, hp, y, hy => by
    rw [digs] at hy
    split at hy
    · rcases List.mem_append.mp hy with q | q
      · rw [(List.mem_replicate.mp q).2]; exact hp
      · exact digs_kern f _ _ hp.up y q
    · cases hy
theorem digs_ge (hD : 2 ≤ D) : ∀ (f : Nat) (left part : Int), 0 < part → ∀ y ∈ digs D f left part, part ≤ y
  | 0, _, _, _, y, hy => by simp [digs] at hy
  | f + 1, left, part, hp, y, hy => by
    have h2 : part * 2 ≤ part * D := Int.mul_le_mul_of_nonneg_left hD (by omega)
    rw [digs] at hy
    split at hy
    · rcases List.mem_append.mp hy with q | q
      · rw [(List.mem_replicate.mp q).2]; exact Int.le_refl _
      · have := digs_ge hD f _ _ (by omega) y q
        omega
    · cases hy
theorem digs_good (hD : 2 ≤ D) : ∀ (f : Nat) (left part : Int), 0 < part → Good D (digs D f left part)
  | 0, _, _, _, x => by simp [digs]; omega
  | f + 1, left, part, hp, x => by
    have h2 : part * 2 ≤ part * D := Int.mul_le_mul_of_nonneg_left hD (by omega)
    rw [digs]
    split
    · rw [List.count_append]
      by_cases q : x = part
      · subst q
        have h0 : (digs D f (left / D) (x * D)).count x = 0 := List.count_eq_zero.mpr fun hm => by
          have := digs_ge hD f _ _ (by omega) x hm
          omega
        rw [h0, List.count_replicate_self]
        have := Int.emod_lt_of_pos left (by omega : 0 < D)
        have := Int.emod_nonneg left (by omega : D ≠ 0)
        omega
      · have h0 : (List.replicate (left % D).toNat part).count x = 0 := List.count_eq_zero.mpr fun hm => q (List.mem_replicate.mp hm).2
        rw [h0, Nat.zero_add]
        exact digs_good hD f _ _ (by omega) x
    · simp; omega
theorem sum_rep (x : Int) : ∀ m : Nat, (List.replicate m x).sum = m * x
  | 0 => by simp
  | m + 1 => by rw [List.replicate_succ, List.sum_cons, sum_rep x m, Int.natCast_add, Int.add_mul]; simp; omega
theorem digs_sum (hD : 2 ≤ D) : ∀ (f : Nat) (left part : Int), 0 ≤ left → left < D ^ f → (digs D f left part).sum = part * left
  | 0, left, part, h0, h1 => by
    have : left = 0 := by simp at h1; omega
    subst this; simp [digs]
  | f + 1, left, part, h0, h1 => by
    rw [digs]
    split
    · rename_i hl
      have m0 := Int.emod_nonneg left (by omega : D ≠ 0)
      have hdm := Int.mul_ediv_add_emod left D
      have q0 : 0 ≤ left / D := Int.ediv_nonneg h0 (by omega)
      have q1 : left / D < D ^ f := Int.ediv_lt_of_lt_mul (by omega) (by rw [Int.pow_succ] at h1; exact h1)
      rw [List.sum_append, sum_rep, digs_sum hD f _ _ q0 q1, Int.toNat_of_nonneg m0, Int.mul_assoc, Int.mul_comm (left % D), ← Int.mul_add]
      congr 1
      omega
    · have : left = 0 := by omega
      subst this; simp
theorem V_all {B : List Int} {k' : Int} (hD : 2 ≤ D) (h : ∀ y ∈ B, IsKern D y k') : V D k B = if k' = k then B.sum else 0 := by
  unfold V
  by_cases q : k' = k
  · rw [if_pos q, List.filter_eq_self.mpr]
    intro y hy
    rw [← (h y hy).eq hD, q]; simp
  · rw [if_neg q, List.filter_eq_nil_iff.mpr]
    · rfl
    · intro y hy
      rw [← (h y hy).eq hD]; simpa using q
theorem sumOf_V (S : List Int) (k : Int) : sumOf D S k = V D k S := by
  unfold sumOf V
  have e : ∀ j ∈ upto S.length, ((S.map (kern D)).getD j.toNat 0 == k) = (kern D (S.getD j.toNat 0) == k) := by
    intro j hj
    simp [upto] at hj
    obtain ⟨i, hi, rfl⟩ := hj
    simp [hi]
  rw [List.filter_congr e]
  have e2 := upto_map_get S
  have e3 : ((upto S.length).filter fun j => kern D (S.getD j.toNat 0) == k).map (fun j => S.getD j.toNat 0) = ((upto S.length).map (fun j => S.getD j.toNat 0)).filter (fun y => kern D y == k) := by
    rw [List.filter_map]; rfl
  rw [e3, e2]
theorem V_nonneg {S : List Int} (h : ∀ x ∈ S, 0 ≤ x ∧ x ≤ 12) : 0 ≤ V D k S ∧ V D k S ≤ 12 * S.length := by
  unfold V
  have h1 := sum_bound (S.filter fun y => kern D y == k) fun x hx => h x (List.mem_filter.mp hx).1
  have h2 := List.length_filter_le (fun y => kern D y == k) S
  omega
theorem due_ok (hD : D = 2 ∨ D = 3) {S : List Int} (hS : ∀ x ∈ S, 0 ≤ x ∧ x ≤ 12) (hl : S.length ≤ 10) (hV : Val D S) : ∀ n : Nat, n ≤ 12 → Good D (dueUpto D S n) ∧ (∀ y ∈ dueUpto D S n, ∃ k, IsKern D y k ∧ k ≤ n) ∧ ∀ k : Int, 1 ≤ k → k ≤ n → V D k (dueUpto D S n) = V D k S
  | 0, _ => ⟨fun x => by simp [dueUpto]; omega, fun y hy => by simp [dueUpto] at hy, fun k h1 h2 => by omega⟩
  | n + 1, hn => by
    have hD2 : 2 ≤ D := by omega
    obtain ⟨g1, g2, g3⟩ := due_ok hD hS hl hV n (by omega)
    have hb := V_nonneg (D := D) (k := ((n + 1 : Nat) : Int)) hS
    have hK : (0 : Int) < ((n + 1 : Nat) : Int) := by omega
    by_cases hdv : ((n + 1 : Nat) : Int) % D = 0
    · have hz : V D ((n + 1 : Nat) : Int) S = 0 := by
        unfold V
        rw [List.filter_eq_nil_iff.mpr]
        · rfl
        · intro y hy q
          obtain ⟨k', hk', _⟩ := hV y hy
          have : k' = ((n + 1 : Nat) : Int) := (hk'.eq hD2).trans (by simpa using q)
          rw [← this] at hdv
          exact hk'.2.1 hdv
      have he : dueAt D S ((n + 1 : Nat) : Int) = [] := by
        unfold dueAt
        rw [sumOf_V, hz]
        simp [digs]
      rw [dueUpto, he, List.append_nil]
      refine ⟨g1, fun y hy => (g2 y hy).imp fun k q => ⟨q.1, by omega⟩, fun k h1 h2 => ?_⟩
      by_cases q : k = ((n + 1 : Nat) : Int)
      · rw [q, hz]
        unfold V
        rw [List.filter_eq_nil_iff.mpr]
        · rfl
        · intro y hy q
          obtain ⟨k', hk', hle⟩ := g2 y hy
          have : k' = ((n + 1 : Nat) : Int) := (hk'.eq hD2).trans (by simpa using q)
          omega
      · exact g3 k h1 (by omega)
    · have hkk : IsKern D ((n + 1 : Nat) : Int) ((n + 1 : Nat) : Int) := ⟨hK, hdv, 0, by simp⟩
      have hdvd : ((n + 1 : Nat) : Int) ∣ V D ((n + 1 : Nat) : Int) S := by
        unfold V
        refine sum_dvd fun y hy => ?_
        have hm := List.mem_filter.mp hy
        obtain ⟨k', hk', _⟩ := hV y hm.1
        have : k' = ((n + 1 : Nat) : Int) := (hk'.eq hD2).trans (by simpa using hm.2)
        rw [this] at hk'
        obtain ⟨_, _, e, he⟩ := hk'
        rw [he]
        exact Int.dvd_mul_right ..
      have h200 : (2 : Int) ^ 200 ≤ D ^ 200 := by rcases hD with rfl | rfl <;> decide
      have hq0 : 0 ≤ V D ((n + 1 : Nat) : Int) S / ((n + 1 : Nat) : Int) := Int.ediv_nonneg hb.1 (by omega)
      have hq1 : V D ((n + 1 : Nat) : Int) S / ((n + 1 : Nat) : Int) < D ^ 200 := by
        have a1 : V D ((n + 1 : Nat) : Int) S / ((n + 1 : Nat) : Int) ≤ V D ((n + 1 : Nat) : Int) S := Int.ediv_le_self _ hb.1
        have a2 : (120 : Int) < 2 ^ 200 := by decide
        omega
      have hk2 : ∀ y ∈ dueAt D S ((n + 1 : Nat) : Int), IsKern D y ((n + 1 : Nat) : Int) := by
        unfold dueAt
        exact digs_kern _ _ _ hkk
      have hsum : (dueAt D S ((n + 1 : Nat) : Int)).sum = V D ((n + 1 : Nat) : Int) S := by
        unfold dueAt
        rw [sumOf_V, digs_sum hD2 _ _ _ hq0 hq1]
        exact Int.mul_ediv_cancel' hdvd
      rw [dueUpto]
      refine ⟨fun x => ?_, fun y hy => ?_, fun k h1 h2 => ?_⟩
      · rw [List.count_append]
        by_cases q : x ∈ dueAt D S ((n + 1 : Nat) : Int)
        · have h0 : (dueUpto D S n).count x = 0 := List.count_eq_zero.mpr fun hm => by
            obtain ⟨k', hk', hle⟩ := g2 x hm
            have := (hk'.eq hD2).trans ((hk2 x q).eq hD2).symm
            omega
          rw [h0, Nat.zero_add]
          unfold dueAt
          exact digs_good hD2 _ _ _ hK x
        · rw [List.count_eq_zero.mpr q, Nat.add_zero]
          exact g1 x
      · rcases List.mem_append.mp hy with q | q
        · exact (g2 y q).imp fun k q => ⟨q.1, by omega⟩
        · exact ⟨_, hk2 y q, by omega⟩
      · rw [V_app, V_all hD2 hk2]
        by_cases q : k = ((n + 1 : Nat) : Int)
        · have : V D k (dueUpto D S n) = 0 := by
            unfold V
            rw [List.filter_eq_nil_iff.mpr]
            · rfl
            · intro y hy z
              obtain ⟨k', hk', hle⟩ := g2 y hy
              have := (hk'.eq hD2).trans (by simpa using z : kern D y = k)
              omega
          rw [this, if_pos q.symm, hsum, q]; omega
        · rw [if_neg (fun z => q z.symm), g3 k h1 (by omega)]; omega
theorem bag_perm {d : Nat} (hd : d = 2 ∨ d = 3) {S B : List Int} (hS : ∀ x ∈ S, 0 ≤ x ∧ x ≤ 12) (hl : S.length ≤ 10) (hV : Val d S) (hG : Good d B) (hVB : Val d B) (hk : ∀ k, V d k B = V d k S) : B.Perm (dueUpto d S 12) := by
  have hD : (d : Int) = 2 ∨ (d : Int) = 3 := by omega
  have hD2 : (2 : Int) ≤ d := by omega
  obtain ⟨g1, g2, g3⟩ := due_ok hD hS hl hV 12 (by omega)
  have hVd : Val d (dueUpto d S 12) := fun y hy => (g2 y hy).imp fun k q => ⟨q.1, by simpa using q.2⟩
  rw [List.perm_iff_count]
  intro x
  by_cases h : ∃ k, IsKern d x k ∧ k ≤ 12
  · obtain ⟨k, hx, h12⟩ := h
    have e1 := digit hD2 hG hVB hx
    have e2 := digit hD2 g1 hVd hx
    rw [hk k] at e1
    rw [g3 k hx.1 (by simpa using h12)] at e2
    omega
  · rw [List.count_eq_zero.mpr fun hm => h (hVB x hm), List.count_eq_zero.mpr fun hm => h (hVd x hm)]
theorem kern_small {D x k : Int} (e : Nat) (a : 0 < k) (b : k % D ≠ 0) (c : x = k * D ^ e) (g : k ≤ 12) : ∃ k, IsKern D x k ∧ k ≤ 12 := ⟨k, ⟨a, b, e, c⟩, g⟩
theorem val2 : ∀ n : Nat, 1 ≤ n → n ≤ 12 → ∃ k, IsKern ((2 : Nat) : Int) n k ∧ k ≤ 12
  | 0, h, _ => absurd h (by decide)
  | 1, _, _ => kern_small (k := 1) 0 (by decide) (by decide) (by decide) (by decide)
  | 2, _, _ => kern_small (k := 1) 1 (by decide) (by decide) (by decide) (by decide)
  | 3, _, _ => kern_small (k := 3) 0 (by decide) (by decide) (by decide) (by decide)
  | 4, _, _ => kern_small (k := 1) 2 (by decide) (by decide) (by decide) (by decide)
  | 5, _, _ => kern_small (k := 5) 0 (by decide) (by decide) (by decide) (by decide)
  | 6, _, _ => kern_small (k := 3) 1 (by decide) (by decide) (by decide) (by decide)
  | 7, _, _ => kern_small (k := 7) 0 (by decide) (by decide) (by decide) (by decide)
  | 8, _, _ => kern_small (k := 1) 3 (by decide) (by decide) (by decide) (by decide)
  | 9, _, _ => kern_small (k := 9) 0 (by decide) (by decide) (by decide) (by decide)
  | 10, _, _ => kern_small (k := 5) 1 (by decide) (by decide) (by decide) (by decide)
  | 11, _, _ => kern_small (k := 11) 0 (by decide) (by decide) (by decide) (by decide)
  | 12, _, _ => kern_small (k := 3) 2 (by decide) (by decide) (by decide) (by decide)
  | n + 13, _, h => absurd h (Nat.not_le.mpr (Nat.lt_of_lt_of_le (by decide) (Nat.le_add_left 13 n)))
theorem val3 : ∀ n : Nat, 1 ≤ n → n ≤ 12 → ∃ k, IsKern ((3 : Nat) : Int) n k ∧ k ≤ 12
  | 0, h, _ => absurd h (by decide)
  | 1, _, _ => kern_small (k := 1) 0 (by decide) (by decide) (by decide) (by decide)
  | 2, _, _ => kern_small (k := 2) 0 (by decide) (by decide) (by decide) (by decide)
  | 3, _, _ => kern_small (k := 1) 1 (by decide) (by decide) (by decide) (by decide)
  | 4, _, _ => kern_small (k := 4) 0 (by decide) (by decide) (by decide) (by decide)
  | 5, _, _ => kern_small (k := 5) 0 (by decide) (by decide) (by decide) (by decide)
  | 6, _, _ => kern_small (k := 2) 1 (by decide) (by decide) (by decide) (by decide)
  | 7, _, _ => kern_small (k := 7) 0 (by decide) (by decide) (by decide) (by decide)
  | 8, _, _ => kern_small (k := 8) 0 (by decide) (by decide) (by decide) (by decide)
  | 9, _, _ => kern_small (k := 1) 2 (by decide) (by decide) (by decide) (by decide)
  | 10, _, _ => kern_small (k := 10) 0 (by decide) (by decide) (by decide) (by decide)
  | 11, _, _ => kern_small (k := 11) 0 (by decide) (by decide) (by decide) (by decide)
  | 12, _, _ => kern_small (k := 4) 1 (by decide) (by decide) (by decide) (by decide)
  | n + 13, _, h => absurd h (Nat.not_le.mpr (Nat.lt_of_lt_of_le (by decide) (Nat.le_add_left 13 n)))
theorem val_small {d : Nat} (hd : d = 2 ∨ d = 3) {x : Int} (h1 : 1 ≤ x) (h2 : x ≤ 12) : ∃ k, IsKern (d : Int) x k ∧ k ≤ 12 := by
  obtain ⟨n, rfl⟩ := Int.eq_ofNat_of_zero_le (Int.le_trans (by decide) h1)
  rcases hd with rfl | rfl
  · exact val2 n (Int.ofNat_le.mp h1) (Int.ofNat_le.mp h2)
  · exact val3 n (Int.ofNat_le.mp h1) (Int.ofNat_le.mp h2)
/-- the three bags are all what is due -/
theorem bags_due {d : Nat} (hd : d = 2 ∨ d = 3) {S : List Int} (hS : ∀ x ∈ S, 1 ≤ x ∧ x ≤ 12) (hl : S.length ≤ 10) :
    (bagOf d [] S).Perm (dueUpto d S 12) ∧ (bagOf d [] S.reverse).Perm (dueUpto d S 12) ∧ (bagOf d (bagOf d [] (S.take 5)) (bagOf d [] (S.drop 5))).Perm (dueUpto d S 12) := by
  have hd2 : 2 ≤ d := by omega
  have hV : Val d S := fun x hx => val_small hd (hS x hx).1 (hS x hx).2
  have hS0 : ∀ x ∈ S, 0 ≤ x ∧ x ≤ 12 := fun x hx => ⟨by have := (hS x hx).1; omega, (hS x hx).2⟩
  have g0 : Good (d : Int) [] := fun x => by simp; omega
  have v0 : Val (d : Int) [] := fun x hx => nomatch hx
  have z0 : ∀ k, V (d : Int) k [] = 0 := fun k => rfl
  refine ⟨?_, ?_, ?_⟩
  · obtain ⟨a, b, c⟩ := bagOf_ok hd2 S [] g0 v0 hV
    exact bag_perm hd hS0 hl hV a b fun k => by rw [c k, z0]; omega
  · obtain ⟨a, b, c⟩ := bagOf_ok hd2 S.reverse [] g0 v0 fun x hx => hV x (List.mem_reverse.mp hx)
    exact bag_perm hd hS0 hl hV a b fun k => by rw [c k, z0, V_perm (List.reverse_perm S)]; omega
  · obtain ⟨a, b, c⟩ := bagOf_ok hd2 (S.take 5) [] g0 v0 fun x hx => hV x (List.mem_of_mem_take hx)
    obtain ⟨a', b', c'⟩ := bagOf_ok hd2 (S.drop 5) [] g0 v0 fun x hx => hV x (List.mem_of_mem_drop hx)
    obtain ⟨a2, b2, c2⟩ := bagOf_ok hd2 _ _ a b b'
    refine bag_perm hd hS0 hl hV a2 b2 fun k => ?_
    rw [c2 k, c k, c' k, z0, Int.zero_add, Int.zero_add, ← V_app, List.take_append_drop]
theorem sorted_unique {a b : List Int} (hp : a.Perm b) (ha : a.Pairwise (· ≤ ·)) (hb : b.Pairwise (· ≤ ·)) : a = b :=
  hp.eq_of_pairwise (fun x y _ _ h1 h2 => Int.le_antisymm h1 h2) ha hb
end
end Mine
end
section
open PySem PySem.W PySem.Calls PyProof.Rows
set_option maxRecDepth 100000
namespace Mine
/-- the tree's answer under an order -/
def kev {α : Type} (lt : Nat → Nat → Bool) : KasT α → α
  | .ret a => a
  | .ask i j k => kev lt (k (lt i j))
theorem kev_bind {α β : Type} (lt : Nat → Nat → Bool) (f : α → KasT β) : ∀ t : KasT α, kev lt (t.bind f) = kev lt (f (kev lt t))
  | .ret _ => rfl
  | .ask i j k => kev_bind lt f (k (lt i j))
theorem kev_wp {α : Type} {lt : Nat → Nat → Bool} {cmp : Nat → Nat → (Bool → Shared → Prop) → Shared → Prop} {I : Shared → Prop} (hc : ∀ i j C s, I s → (∀ s', I s' → C (lt i j) s') → cmp i j C s) {Q : α → Shared → Prop} :
    ∀ (t : KasT α) (s : Shared), I s → (∀ s', I s' → Q (kev lt t) s') → t.kasWp cmp Q s
  | .ret _, s, hi, h => h s hi
  | .ask i j k, s, hi, h => hc i j _ s hi fun s' hi' => kev_wp hc (k (lt i j)) s' hi' h
/-- the same, with the places asked about bounded -/
def kin {α : Type} (n : Nat) (lt : Nat → Nat → Bool) : KasT α → Prop
  | .ret _ => True
  | .ask i j k => i < n ∧ j < n ∧ kin n lt (k (lt i j))
theorem kin_wp {α : Type} {n : Nat} {lt : Nat → Nat → Bool} {cmp : Nat → Nat → (Bool → Shared → Prop) → Shared → Prop} {I : Shared → Prop} (hc : ∀ i j C s, i < n → j < n → I s → (∀ s', I s' → C (lt i j) s') → cmp i j C s) {Q : α → Shared → Prop} :
    ∀ (t : KasT α) (s : Shared), kin n lt t → I s → (∀ s', I s' → Q (kev lt t) s') → t.kasWp cmp Q s
  | .ret _, s, _, hi, h => h s hi
  | .ask i j k, s, ⟨h1, h2, h3⟩, hi, h => hc i j _ s h1 h2 hi fun s' hi' => kin_wp hc (k (lt i j)) s' h3 hi' h
theorem kin_bind {α β : Type} {n : Nat} {lt : Nat → Nat → Bool} {f : α → KasT β} : ∀ {t : KasT α}, kin n lt t → kin n lt (f (kev lt t)) → kin n lt (t.bind f)
  | .ret _, _, h => h
  | .ask _ _ k, ⟨h1, h2, h3⟩, h => ⟨h1, h2, kin_bind (t := k _) h3 h⟩

section
variable (key : Nat → Int)
def klt (i j : Nat) : Bool := decide (key i < key j)
def kp (p : Array Nat) (i : Nat) : Int := key (p.getD i 0)
def SrtP (p : Array Nat) (k : Nat) : Prop := ∀ i j, i ≤ j → j < k → kp key p i ≤ kp key p j
def NicP (p : Array Nat) (k : Nat) : Prop := ∀ i j, i ≤ j → j < k → kp key p j ≤ kp key p i
/-- all places hold numbers below n -/
def BndP (n : Nat) (p : Array Nat) : Prop := ∀ i, i < n → p.getD i 0 < n
end
variable {key : Nat → Int} {p : Array Nat}
theorem getD_of {p q : Array Nat} {i j : Nat} (h : p[i]? = q[j]?) : p.getD i 0 = q.getD j 0 := by
  rw [Array.getD_eq_getD_getElem?, Array.getD_eq_getD_getElem?, h]
theorem kp_rev {i j : Nat} (hj : j ≤ p.size) (k : Nat) : (kas_rev p i j).getD k 0 = if i ≤ k ∧ k < j then p.getD (i + j - 1 - k) 0 else p.getD k 0 := by
  have e := getElem?_mirror_all (xs := p) (i := i) hj k
  unfold kas_rev
  by_cases h1 : i ≤ k ∧ k < j
  · rw [if_pos h1] at e ⊢; exact getD_of e
  · rw [if_neg h1] at e ⊢; exact getD_of e
theorem kp_rev_eq {i j : Nat} (hj : j ≤ p.size) (heq : ∀ k, i ≤ k → k < j → kp key p k = kp key p (j - 1)) (k : Nat) : kp key (kas_rev p i j) k = kp key p k := by
  unfold kp at *
  rw [kp_rev hj]
  split
  · rw [heq _ (by omega) (by omega), heq k (by omega) (by omega)]
  · rfl
theorem bnd_rev {n i j : Nat} (hn : p.size = n) (hj : j ≤ n) (h : BndP n p) : BndP n (kas_rev p i j) := fun k hk => by
  rw [kp_rev (by omega)]
  split
  · exact h _ (by omega)
  · exact h k hk
theorem rev_size {i j : Nat} : (kas_rev p i j).size = p.size := mirror_size _ _ _ _
theorem rev_perm {i j : Nat} : (kas_rev p i j).Perm p := mirror_perm _ _ _ _
theorem kp_bubble {src d : Nat} (hs : src < p.size) (hd : d ≤ src) (k : Nat) : (bubble p src d).getD k 0 = if k = src - d then p.getD src 0 else if src - d < k ∧ k ≤ src then p.getD (k - 1) 0 else p.getD k 0 := by
  have e := getElem?_bubble hs d hd k
  by_cases h1 : k = src - d
  · rw [if_pos h1] at e ⊢; exact getD_of e
  · rw [if_neg h1] at e ⊢
    by_cases h2 : src - d < k ∧ k ≤ src
    · rw [if_pos h2] at e ⊢; exact getD_of e
    · rw [if_neg h2] at e ⊢; exact getD_of e

theorem kp_bubble' {src d : Nat} (hs : src < p.size) (hd : d ≤ src) (k : Nat) : kp key (bubble p src d) k = if k = src - d then kp key p src else if src - d < k ∧ k ≤ src then kp key p (k - 1) else kp key p k := by
  have e := kp_bubble hs hd k
  by_cases h1 : k = src - d
  · rw [if_pos h1] at e ⊢; exact congrArg key e
  · rw [if_neg h1] at e ⊢
    by_cases h2 : src - d < k ∧ k ≤ src
    · rw [if_pos h2] at e ⊢; exact congrArg key e
    · rw [if_neg h2] at e ⊢; exact congrArg key e
theorem nA0 {n f N : Nat} (h : n + (f + 1) = N) : (n + 1) + f = N := (Nat.add_right_comm n 1 f).trans h
theorem nA1 {n f N : Nat} (h : n + (f + 1) ≤ N) : n < N := Nat.lt_of_lt_of_le (Nat.lt_add_of_pos_right (Nat.succ_pos f)) h
theorem nA2 {n N : Nat} (h : n < N) : n - 1 < N := Nat.lt_of_le_of_lt (Nat.sub_le n 1) h
theorem nA3 {n f N : Nat} (h : n + (f + 1) ≤ N) : (n + 1) + f ≤ N := by rw [Nat.add_right_comm]; exact h
theorem nA5 {j n : Nat} (h : j < n + 1) (h' : ¬ j < n) : j = n := Nat.le_antisymm (Nat.le_of_lt_succ h) (Nat.not_lt.mp h')
theorem nA6 {i j : Nat} (h : i ≤ j) (h' : ¬ i = j) : i ≤ j - 1 := Nat.le_pred_of_lt (Nat.lt_of_le_of_ne h h')
theorem nA7 {i j : Nat} (h : i ≤ j) (h' : ¬ i = j) : j - 1 < j := Nat.sub_lt (Nat.lt_of_le_of_lt (Nat.zero_le i) (Nat.lt_of_le_of_ne h h')) Nat.zero_lt_one
theorem nA8 {i n : Nat} (h1 : n + 1 - (0 + 1) ≤ i) (h2 : i < n + 1) : i = n + 1 - 1 := Nat.le_antisymm (Nat.le_of_lt_succ h2) h1
theorem nA9 {r n f : Nat} (h : r ≤ n + 1 + f) : r ≤ n + (f + 1) := by rw [Nat.add_right_comm] at h; exact h
theorem nM1 {l r : Nat} (h : l ≤ r) : l ≤ (l + r) / 2 := by omega
theorem nM2 {l r : Nat} (h : ¬ l ≥ r) : (l + r) / 2 < r := by omega
theorem nM3 {l r f : Nat} (h : r - l ≤ f + 1) : (l + r) / 2 - l ≤ f := by omega
theorem nM4 {l r f : Nat} (h : r - l ≤ f + 1) : r - ((l + r) / 2 + 1) ≤ f := by omega
theorem asc_ok {N : Nat} (hb : BndP N p) : ∀ (f n : Nat), 1 ≤ n → n + f ≤ N → SrtP key p n → n ≤ kev (klt key) (kas_asc p f n) ∧ kev (klt key) (kas_asc p f n) ≤ n + f ∧ SrtP key p (kev (klt key) (kas_asc p f n)) ∧
    (kev (klt key) (kas_asc p f n) = n + f ∨ kp key p (kev (klt key) (kas_asc p f n)) < kp key p (kev (klt key) (kas_asc p f n) - 1)) ∧ kin N (klt key) (kas_asc p f n)
  | 0, n, _, _, hs => ⟨Nat.le_refl _, Nat.le_refl _, hs, .inl rfl, trivial⟩
  | f + 1, n, h1, hN, hs => by
    rw [kas_asc]
    show _ ≤ kev (klt key) (if klt key (p.getD n 0) (p.getD (n - 1) 0) = true then KasT.ret n else kas_asc p f (n + 1)) ∧ kev (klt key) (if klt key (p.getD n 0) (p.getD (n - 1) 0) = true then KasT.ret n else kas_asc p f (n + 1)) ≤ _ ∧ SrtP key p (kev (klt key) (if klt key (p.getD n 0) (p.getD (n - 1) 0) = true then KasT.ret n else kas_asc p f (n + 1))) ∧ (kev (klt key) (if klt key (p.getD n 0) (p.getD (n - 1) 0) = true then KasT.ret n else kas_asc p f (n + 1)) = _ ∨ kp key p (kev (klt key) (if klt key (p.getD n 0) (p.getD (n - 1) 0) = true then KasT.ret n else kas_asc p f (n + 1))) < kp key p (kev (klt key) (if klt key (p.getD n 0) (p.getD (n - 1) 0) = true then KasT.ret n else kas_asc p f (n + 1)) - 1)) ∧ (_ ∧ _ ∧ kin N (klt key) (if klt key (p.getD n 0) (p.getD (n - 1) 0) = true then KasT.ret n else kas_asc p f (n + 1)))
    have b1 := hb n (nA1 hN)
    have b2 := hb (n - 1) (nA2 (nA1 hN))
    by_cases h : klt key (p.getD n 0) (p.getD (n - 1) 0) = true
    · rw [if_pos h]
      exact ⟨Nat.le_refl _, Nat.le_add_right _ _, hs, .inr (of_decide_eq_true h), b1, b2, trivial⟩
    · rw [if_neg h]
      have hge : kp key p (n - 1) ≤ kp key p n := Int.not_lt.mp fun q => h (decide_eq_true q)
      obtain ⟨g1, g2, g3, g4, g5⟩ := asc_ok hb f (n + 1) (Nat.le_add_left 1 n) (nA3 hN) (fun i j hij hj => by
        by_cases q : j < n
        · exact hs i j hij q
        · have : j = n := nA5 hj q
          subst this
          by_cases q' : i = j
          · subst q'; exact Int.le_refl _
          · exact Int.le_trans (hs i (j - 1) (nA6 hij q') (nA7 hij q')) hge)
      exact ⟨Nat.le_of_succ_le g1, nA9 g2, g3, g4.imp (fun q => q.trans (Nat.add_right_comm n 1 f)) id, b1, b2, g5⟩

structure DescR (key : Nat → Int) (N n f : Nat) (p₀ : Array Nat) (r : Array Nat × Nat × Nat) : Prop where
  perm : r.1.Perm p₀
  size : r.1.size = N
  bnd : BndP N r.1
  lo : n ≤ r.2.1
  hi : r.2.1 ≤ n + f
  nic : NicP key r.1 r.2.1
  q : r.2.2 + 1 ≤ r.2.1
  eq : ∀ i, r.2.1 - (r.2.2 + 1) ≤ i → i < r.2.1 → kp key r.1 i = kp key r.1 (r.2.1 - 1)
theorem desc_ok {N : Nat} : ∀ (f : Nat) (p : Array Nat) (n q : Nat), 1 ≤ n → n + f ≤ N → p.size = N → BndP N p → NicP key p n → q + 1 ≤ n → (∀ i, n - (q + 1) ≤ i → i < n → kp key p i = kp key p (n - 1)) →
    DescR key N n f p (kev (klt key) (kas_desc f p n q)) ∧ kin N (klt key) (kas_desc f p n q)
  | 0, p, n, q, _, _, hsz, hb, hs, hq, he => ⟨⟨Array.Perm.refl _, hsz, hb, Nat.le_refl _, Nat.le_refl _, hs, hq, he⟩, trivial⟩
  | f + 1, p, n, q, h1, hN, hsz, hb, hs, hq, he => by
    have b1 := hb n (nA1 hN)
    have b2 := hb (n - 1) (nA2 (nA1 hN))
    have step1 : ∀ p' : Array Nat, (∀ k, kp key p' k = kp key p k) → kp key p n < kp key p (n - 1) → NicP key p' (n + 1) := by
      intro p' hk hless i j hij hj
      rw [hk, hk]
      by_cases hjx : j < n
      · exact hs i j hij hjx
      · have hj' : j = n := nA5 hj hjx
        subst hj'
        by_cases hi' : i = j
        · subst hi'; exact Int.le_refl _
        · exact Int.le_trans (Int.le_of_lt hless) (hs i (j - 1) (nA6 hij hi') (nA7 hij hi'))
    rw [kas_desc]
    by_cases h : klt key (p.getD n 0) (p.getD (n - 1) 0) = true
    · have hless : kp key p n < kp key p (n - 1) := of_decide_eq_true h
      by_cases hq0 : q > 0
      · have hz := desc_ok f (kas_rev p (n - (q + 1)) n) (n + 1) 0 (Nat.le_add_left 1 n) (nA3 hN) (rev_size.trans hsz) (bnd_rev hsz (Nat.le_of_lt (nA1 hN)) hb) (step1 _ (kp_rev_eq (by rw [hsz]; exact Nat.le_of_lt (nA1 hN)) he) hless) (Nat.le_add_left 1 n) (fun i h1 h2 => congrArg (kp key _) (nA8 h1 h2))
        have e : kev (klt key) (KasT.ask (p.getD n 0) (p.getD (n - 1) 0) fun c => if c = true then (if q > 0 then kas_desc f (kas_rev p (n - (q + 1)) n) (n + 1) 0 else kas_desc f p (n + 1) 0) else .ask (p.getD (n - 1) 0) (p.getD n 0) fun d => if d = true then .ret (p, n, q) else kas_desc f p (n + 1) (q + 1)) = kev (klt key) (kas_desc f (kas_rev p (n - (q + 1)) n) (n + 1) 0) := by
          show kev (klt key) (if klt key (p.getD n 0) (p.getD (n - 1) 0) = true then _ else _) = _
          rw [if_pos h, if_pos hq0]
        rw [e]
        refine ⟨⟨hz.1.perm.trans rev_perm, hz.1.size, hz.1.bnd, Nat.le_of_succ_le hz.1.lo, nA9 hz.1.hi, hz.1.nic, hz.1.q, hz.1.eq⟩, b1, b2, ?_⟩
        show kin N (klt key) (if klt key (p.getD n 0) (p.getD (n - 1) 0) = true then _ else _)
        rw [if_pos h, if_pos hq0]
        exact hz.2
      · have hz := desc_ok f p (n + 1) 0 (Nat.le_add_left 1 n) (nA3 hN) hsz hb (step1 _ (fun _ => rfl) hless) (Nat.le_add_left 1 n) (fun i h1 h2 => congrArg (kp key _) (nA8 h1 h2))
        have e : kev (klt key) (KasT.ask (p.getD n 0) (p.getD (n - 1) 0) fun c => if c = true then (if q > 0 then kas_desc f (kas_rev p (n - (q + 1)) n) (n + 1) 0 else kas_desc f p (n + 1) 0) else .ask (p.getD (n - 1) 0) (p.getD n 0) fun d => if d = true then .ret (p, n, q) else kas_desc f p (n + 1) (q + 1)) = kev (klt key) (kas_desc f p (n + 1) 0) := by
          show kev (klt key) (if klt key (p.getD n 0) (p.getD (n - 1) 0) = true then _ else _) = _
          rw [if_pos h, if_neg hq0]
        rw [e]
        refine ⟨⟨hz.1.perm, hz.1.size, hz.1.bnd, Nat.le_of_succ_le hz.1.lo, nA9 hz.1.hi, hz.1.nic, hz.1.q, hz.1.eq⟩, b1, b2, ?_⟩
        show kin N (klt key) (if klt key (p.getD n 0) (p.getD (n - 1) 0) = true then _ else _)
        rw [if_pos h, if_neg hq0]
        exact hz.2
    · have hge : ¬ kp key p n < kp key p (n - 1) := fun z => h (decide_eq_true z)
      by_cases h' : klt key (p.getD (n - 1) 0) (p.getD n 0) = true
      · have e : kev (klt key) (KasT.ask (p.getD n 0) (p.getD (n - 1) 0) fun c => if c = true then (if q > 0 then kas_desc f (kas_rev p (n - (q + 1)) n) (n + 1) 0 else kas_desc f p (n + 1) 0) else .ask (p.getD (n - 1) 0) (p.getD n 0) fun d => if d = true then .ret (p, n, q) else kas_desc f p (n + 1) (q + 1)) = (p, n, q) := by
          show kev (klt key) (if klt key (p.getD n 0) (p.getD (n - 1) 0) = true then _ else _) = _
          rw [if_neg h]
          show kev (klt key) (if klt key (p.getD (n - 1) 0) (p.getD n 0) = true then _ else _) = _
          rw [if_pos h']; rfl
        rw [e]
        refine ⟨⟨Array.Perm.refl _, hsz, hb, Nat.le_refl _, Nat.le_add_right _ _, hs, hq, he⟩, b1, b2, ?_⟩
        show kin N (klt key) (if klt key (p.getD n 0) (p.getD (n - 1) 0) = true then _ else _)
        rw [if_neg h]
        refine ⟨b2, b1, ?_⟩
        show kin N (klt key) (if klt key (p.getD (n - 1) 0) (p.getD n 0) = true then _ else _)
        rw [if_pos h']
        trivial
      · have hle : ¬ kp key p (n - 1) < kp key p n := fun z => h' (decide_eq_true z)
        have heqx : kp key p n = kp key p (n - 1) := Int.le_antisymm (Int.not_lt.mp hle) (Int.not_lt.mp hge)
        have hz := desc_ok f p (n + 1) (q + 1) (Nat.le_add_left 1 n) (nA3 hN) hsz hb (fun i j hij hj => by
          by_cases hjx : j < n
          · exact hs i j hij hjx
          · have hj' : j = n := nA5 hj hjx
            subst hj'
            by_cases hi' : i = j
            · subst hi'; exact Int.le_refl _
            · rw [heqx]; exact hs i (j - 1) (nA6 hij hi') (nA7 hij hi')) (Nat.succ_le_succ hq) (fun i h1 h2 => by
          rw [Nat.add_sub_cancel]
          by_cases hix : i = n
          · subst hix; rfl
          · rw [heqx]; exact he i (by rw [Nat.add_sub_add_right] at h1; exact h1) (Nat.lt_of_le_of_ne (Nat.le_of_lt_succ h2) hix))
        have e : kev (klt key) (KasT.ask (p.getD n 0) (p.getD (n - 1) 0) fun c => if c = true then (if q > 0 then kas_desc f (kas_rev p (n - (q + 1)) n) (n + 1) 0 else kas_desc f p (n + 1) 0) else .ask (p.getD (n - 1) 0) (p.getD n 0) fun d => if d = true then .ret (p, n, q) else kas_desc f p (n + 1) (q + 1)) = kev (klt key) (kas_desc f p (n + 1) (q + 1)) := by
          show kev (klt key) (if klt key (p.getD n 0) (p.getD (n - 1) 0) = true then _ else _) = _
          rw [if_neg h]
          show kev (klt key) (if klt key (p.getD (n - 1) 0) (p.getD n 0) = true then _ else _) = _
          rw [if_neg h']
        rw [e]
        refine ⟨⟨hz.1.perm, hz.1.size, hz.1.bnd, Nat.le_of_succ_le hz.1.lo, nA9 hz.1.hi, hz.1.nic, hz.1.q, hz.1.eq⟩, b1, b2, ?_⟩
        show kin N (klt key) (if klt key (p.getD n 0) (p.getD (n - 1) 0) = true then _ else _)
        rw [if_neg h]
        refine ⟨b2, b1, ?_⟩
        show kin N (klt key) (if klt key (p.getD (n - 1) 0) (p.getD n 0) = true then _ else _)
        rw [if_neg h']
        exact hz.2

structure CntR (key : Nat → Int) (N nrem : Nat) (p₀ : Array Nat) (r : Nat × Array Nat) : Prop where
  perm : r.2.Perm p₀
  size : r.2.size = N
  bnd : BndP N r.2
  lo : 1 ≤ r.1
  hi : r.1 ≤ nrem
  srt : SrtP key r.2 r.1
theorem tail3_ok {N n nrem : Nat} (hN : nrem ≤ N) (h1 : 1 ≤ n) (hn : n ≤ nrem) (hsz : p.size = N) (hb : BndP N p) (hs : NicP key p n) : CntR key N nrem p (kev (klt key) (kas_tail3 n nrem p)) ∧ kin N (klt key) (kas_tail3 n nrem p) := by
  unfold kas_tail3
  rw [kev_bind]
  have hs' : SrtP key (kas_rev p 0 n) n := fun i j hij hj => by
    unfold kp
    rw [kp_rev (by omega), kp_rev (by omega), if_pos (by omega), if_pos (by omega)]
    exact hs _ _ (by omega) (by omega)
  obtain ⟨g1, g2, g3, g4, g5⟩ := asc_ok (bnd_rev (i := 0) (j := n) hsz (by omega) hb) (nrem - n) n h1 (by omega) hs'
  exact ⟨⟨rev_perm, rev_size.trans hsz, bnd_rev hsz (by omega) hb, Nat.le_trans h1 g1, by show kev (klt key) (kas_asc (kas_rev p 0 n) (nrem - n) n) ≤ nrem; omega, g3⟩, kin_bind g5 trivial⟩
theorem CntR.trans {N nrem : Nat} {p₁ p₂ : Array Nat} {r : Nat × Array Nat} (x : CntR key N nrem p₁ r) (h : p₁.Perm p₂) : CntR key N nrem p₂ r := ⟨x.perm.trans h, x.size, x.bnd, x.lo, x.hi, x.srt⟩
theorem descPart_ok {N n nrem : Nat} (hN : nrem ≤ N) (hn : n + 1 ≤ nrem) (hsz : p.size = N) (hb : BndP N p) (hs : NicP key p (n + 1)) : CntR key N nrem p (kev (klt key) (kas_descPart n nrem p)) ∧ kin N (klt key) (kas_descPart n nrem p) := by
  unfold kas_descPart
  rw [kev_bind]
  obtain ⟨⟨d1, d2, d3, d4, d5, d6, d7, d8⟩, dk⟩ := desc_ok (key := key) (nrem - (n + 1)) p (n + 1) 0 (by omega) (by omega) hsz hb hs (by omega) (fun i h1 h2 => by congr 1; omega)
  have dk' := dk
  revert dk'
  generalize hr : kev (klt key) (kas_desc (nrem - (n + 1)) p (n + 1) 0) = r at d1 d2 d3 d4 d5 d6 d7 d8
  intro dk'
  obtain ⟨p', m, q⟩ := r
  dsimp only at d1 d2 d3 d4 d5 d6 d7 d8 ⊢
  by_cases hq : q > 0
  · have hz := tail3_ok (key := key) (n := m) hN (by omega) (by omega) (rev_size.trans d2) (bnd_rev (i := m - (q + 1)) (j := m) d2 (by omega) d3) (fun i j hij hj => by
      rw [kp_rev_eq (by omega) d8, kp_rev_eq (by omega) d8]
      exact d6 i j hij hj)
    rw [if_pos hq]
    refine ⟨hz.1.trans (rev_perm.trans d1), kin_bind dk ?_⟩
    rw [hr]
    show kin N (klt key) (if q > 0 then _ else _)
    rw [if_pos hq]
    exact hz.2
  · have hz := tail3_ok (key := key) (n := m) hN (by omega) (by omega) d2 d3 d6
    rw [if_neg hq]
    refine ⟨hz.1.trans d1, kin_bind dk ?_⟩
    rw [hr]
    show kin N (klt key) (if q > 0 then _ else _)
    rw [if_neg hq]
    exact hz.2
theorem count_ok {N : Nat} (h1 : 1 ≤ N) (hsz : p.size = N) (hb : BndP N p) : CntR key N N p (kev (klt key) (kas_count N p)) ∧ kin N (klt key) (kas_count N p) := by
  unfold kas_count
  rw [kev_bind]
  obtain ⟨g1, g2, g3, g4, g5⟩ := asc_ok (key := key) hb (N - 1) 1 (Nat.le_refl _) (Nat.le_of_eq (Nat.add_sub_cancel' h1)) (fun i j hij hj => by
    have : i = j := Nat.le_antisymm hij (by rw [Nat.lt_one_iff.mp hj]; exact Nat.zero_le _)
    subst this; exact Int.le_refl _)
  have bind : ∀ {f : Nat → KasT (Nat × Array Nat)}, kin N (klt key) (f (kev (klt key) (kas_asc p (N - 1) 1))) → kin N (klt key) ((kas_asc p (N - 1) 1).bind f) := fun h => kin_bind g5 h
  suffices hh : CntR key N N p (kev (klt key) ((fun n => if (n == N) = true then KasT.ret (n, p) else if n > 1 then .ask (p.getD 0 0) (p.getD (n - 1) 0) fun c => if c = true then .ret (n, p) else kas_descPart n N (kas_rev p 0 n) else kas_descPart n N p) (kev (klt key) (kas_asc p (N - 1) 1)))) ∧ kin N (klt key) ((fun n => if (n == N) = true then KasT.ret (n, p) else if n > 1 then .ask (p.getD 0 0) (p.getD (n - 1) 0) fun c => if c = true then .ret (n, p) else kas_descPart n N (kas_rev p 0 n) else kas_descPart n N p) (kev (klt key) (kas_asc p (N - 1) 1))) from ⟨hh.1, bind hh.2⟩
  generalize kev (klt key) (kas_asc p (N - 1) 1) = n at g1 g2 g3 g4
  clear bind g5
  dsimp only
  have hnN : n ≤ N := Nat.le_trans g2 (Nat.le_of_eq (Nat.add_sub_cancel' h1))
  have done : CntR key N N p (n, p) := ⟨Array.Perm.refl _, hsz, hb, g1, hnN, g3⟩
  by_cases hnn : n = N
  · rw [if_pos (by simpa using hnn)]
    exact ⟨done, trivial⟩
  · rw [if_neg (by simpa using hnn)]
    have hlt : kp key p n < kp key p (n - 1) := g4.resolve_left fun q => hnn (q.trans (Nat.add_sub_cancel' h1))
    by_cases hgt : n > 1
    · rw [if_pos hgt]
      have b1 := hb 0 (Nat.lt_of_lt_of_le Nat.zero_lt_one h1)
      have b2 := hb (n - 1) (nA2 (Nat.lt_of_le_of_ne hnN hnn))
      by_cases h : klt key (p.getD 0 0) (p.getD (n - 1) 0) = true
      · have e : kev (klt key) (KasT.ask (p.getD 0 0) (p.getD (n - 1) 0) fun c => if c = true then .ret (n, p) else kas_descPart n N (kas_rev p 0 n)) = (n, p) := by
          show kev (klt key) (if klt key (p.getD 0 0) (p.getD (n - 1) 0) = true then _ else _) = _
          rw [if_pos h]; rfl
        rw [e]
        refine ⟨done, b1, b2, ?_⟩
        show kin N (klt key) (if klt key (p.getD 0 0) (p.getD (n - 1) 0) = true then _ else _)
        rw [if_pos h]; trivial
      · have hrose : ¬ kp key p 0 < kp key p (n - 1) := fun z => h (decide_eq_true z)
        have hall : ∀ k, 0 ≤ k → k < n → kp key p k = kp key p (n - 1) := by
          intro k _ hk
          have a1 := g3 0 k (Nat.zero_le k) hk
          have a2 := g3 k (n - 1) (Nat.le_pred_of_lt hk) (Nat.sub_lt g1 Nat.zero_lt_one)
          exact Int.le_antisymm a2 (Int.le_trans (Int.not_lt.mp hrose) a1)
        have hz := descPart_ok (key := key) (n := n) (Nat.le_refl N) (Nat.lt_of_le_of_ne hnN hnn) (rev_size.trans hsz) (bnd_rev (i := 0) (j := n) hsz hnN hb) (fun i j hij hj => by
          rw [kp_rev_eq (by rw [hsz]; exact hnN) hall, kp_rev_eq (by rw [hsz]; exact hnN) hall]
          by_cases hjn : j < n
          · rw [hall i (Nat.zero_le i) (Nat.lt_of_le_of_lt hij hjn), hall j (Nat.zero_le j) hjn]; exact Int.le_refl _
          · have hj' : j = n := nA5 hj hjn
            subst hj'
            by_cases hi' : i = j
            · subst hi'; exact Int.le_refl _
            · rw [hall i (Nat.zero_le i) (Nat.lt_of_le_of_ne hij hi')]; exact Int.le_of_lt hlt)
        have e : kev (klt key) (KasT.ask (p.getD 0 0) (p.getD (n - 1) 0) fun c => if c = true then .ret (n, p) else kas_descPart n N (kas_rev p 0 n)) = kev (klt key) (kas_descPart n N (kas_rev p 0 n)) := by
          show kev (klt key) (if klt key (p.getD 0 0) (p.getD (n - 1) 0) = true then _ else _) = _
          rw [if_neg h]
        rw [e]
        refine ⟨hz.1.trans rev_perm, b1, b2, ?_⟩
        show kin N (klt key) (if klt key (p.getD 0 0) (p.getD (n - 1) 0) = true then _ else _)
        rw [if_neg h]
        exact hz.2
    · rw [if_neg hgt]
      have hn1' : n = 1 := Nat.le_antisymm (Nat.not_lt.mp hgt) g1
      subst hn1'
      refine descPart_ok (Nat.le_refl N) (Nat.lt_of_le_of_ne h1 hnn) hsz hb ?_
      intro i j hij hj
      by_cases hi' : i = j
      · subst hi'; exact Int.le_refl _
      · have hij' : i < j := Nat.lt_of_le_of_ne hij hi'
        have hj1 : j = 1 := Nat.le_antisymm (Nat.le_of_lt_succ hj) (Nat.lt_of_le_of_lt (Nat.zero_le i) hij')
        have hi0 : i = 0 := Nat.lt_one_iff.mp (Nat.lt_of_lt_of_le hij' (Nat.le_of_eq hj1))
        subst hi0; subst hj1
        exact Int.le_of_lt hlt
theorem place_ok {N k : Nat} (hk : k < N) (hb : BndP N p) (hs : SrtP key p k) : ∀ (f l r : Nat), l ≤ r → r ≤ k → r - l ≤ f → (∀ i, i < l → kp key p i ≤ kp key p k) → (∀ i, r ≤ i → i < k → kp key p k < kp key p i) →
    (kev (klt key) (kas_place p k f l r) ≤ k ∧ (∀ i, i < kev (klt key) (kas_place p k f l r) → kp key p i ≤ kp key p k) ∧ (∀ i, kev (klt key) (kas_place p k f l r) ≤ i → i < k → kp key p k < kp key p i)) ∧ kin N (klt key) (kas_place p k f l r)
  | 0, l, r, h1, h2, h3, lo, hi => by
    have : l = r := Nat.le_antisymm h1 (Nat.le_of_sub_eq_zero (Nat.le_zero.mp h3))
    subst this
    exact ⟨⟨h2, lo, hi⟩, trivial⟩
  | f + 1, l, r, h1, h2, h3, lo, hi => by
    rw [kas_place]
    by_cases hge : l ≥ r
    · rw [if_pos hge]
      have : l = r := Nat.le_antisymm h1 hge
      subst this
      exact ⟨⟨h2, lo, hi⟩, trivial⟩
    · rw [if_neg hge]
      have b1 := hb k hk
      have b2 := hb ((l + r) / 2) (Nat.lt_trans (Nat.lt_of_lt_of_le (nM2 hge) h2) hk)
      by_cases h : klt key (p.getD k 0) (p.getD ((l + r) / 2) 0) = true
      · have hless : kp key p k < kp key p ((l + r) / 2) := of_decide_eq_true h
        have hz := place_ok hk hb hs f l ((l + r) / 2) (nM1 h1) (Nat.le_of_lt (Nat.lt_of_lt_of_le (nM2 hge) h2)) (nM3 h3) lo (fun i h1 h2 => Int.lt_of_lt_of_le hless (hs _ _ h1 h2))
        have e : kev (klt key) (KasT.ask (p.getD k 0) (p.getD ((l + r) / 2) 0) fun c => if c = true then kas_place p k f l ((l + r) / 2) else kas_place p k f ((l + r) / 2 + 1) r) = kev (klt key) (kas_place p k f l ((l + r) / 2)) := by
          show kev (klt key) (if klt key (p.getD k 0) (p.getD ((l + r) / 2) 0) = true then _ else _) = _
          rw [if_pos h]
        rw [e]
        refine ⟨hz.1, b1, b2, ?_⟩
        show kin N (klt key) (if klt key (p.getD k 0) (p.getD ((l + r) / 2) 0) = true then _ else _)
        rw [if_pos h]; exact hz.2
      · have hge' : ¬ kp key p k < kp key p ((l + r) / 2) := fun z => h (decide_eq_true z)
        have hz := place_ok hk hb hs f ((l + r) / 2 + 1) r (nM2 hge) h2 (nM4 h3) (fun i h1 => Int.le_trans (hs i ((l + r) / 2) (Nat.le_of_lt_succ h1) (Nat.lt_of_lt_of_le (nM2 hge) h2)) (Int.not_lt.mp hge')) hi
        have e : kev (klt key) (KasT.ask (p.getD k 0) (p.getD ((l + r) / 2) 0) fun c => if c = true then kas_place p k f l ((l + r) / 2) else kas_place p k f ((l + r) / 2 + 1) r) = kev (klt key) (kas_place p k f ((l + r) / 2 + 1) r) := by
          show kev (klt key) (if klt key (p.getD k 0) (p.getD ((l + r) / 2) 0) = true then _ else _) = _
          rw [if_neg h]
        rw [e]
        refine ⟨hz.1, b1, b2, ?_⟩
        show kin N (klt key) (if klt key (p.getD k 0) (p.getD ((l + r) / 2) 0) = true then _ else _)
        rw [if_neg h]; exact hz.2
theorem bin_ok {N : Nat} : ∀ (f : Nat) (p : Array Nat) (k : Nat), k + f = N → p.size = N → BndP N p → SrtP key p k → ((kev (klt key) (kas_bin f p k)).Perm p ∧ SrtP key (kev (klt key) (kas_bin f p k)) N) ∧ kin N (klt key) (kas_bin f p k)
  | 0, p, k, h, _, _, hs => by
    have : k = N := h
    subst this
    exact ⟨⟨Array.Perm.refl _, hs⟩, trivial⟩
  | f + 1, p, k, h, hsz, hb, hs => by
    have hkN : k < N := nA1 (Nat.le_of_eq h)
    rw [kas_bin, kev_bind]
    obtain ⟨⟨l1, l2, l3⟩, l4⟩ := place_ok hkN hb hs k 0 k (Nat.zero_le k) (Nat.le_refl k) (Nat.le_refl k) (fun i hi => absurd hi (Nat.not_lt_zero i)) (fun i h1 h2 => absurd h2 (Nat.not_lt.mpr h1))
    have bind : ∀ {g : Nat → KasT (Array Nat)}, kin N (klt key) (g (kev (klt key) (kas_place p k k 0 k))) → kin N (klt key) ((kas_place p k k 0 k).bind g) := fun h => kin_bind l4 h
    suffices hh : ((kev (klt key) (kas_bin f (bubble p k (k - kev (klt key) (kas_place p k k 0 k))) (k + 1))).Perm p ∧ SrtP key (kev (klt key) (kas_bin f (bubble p k (k - kev (klt key) (kas_place p k k 0 k))) (k + 1))) N) ∧ kin N (klt key) (kas_bin f (bubble p k (k - kev (klt key) (kas_place p k k 0 k))) (k + 1)) from ⟨hh.1, bind hh.2⟩
    generalize kev (klt key) (kas_place p k k 0 k) = l at l1 l2 l3
    have hks : k < p.size := by rw [hsz]; exact hkN
    have hb' : BndP N (bubble p k (k - l)) := fun i hi => by
      rw [kp_bubble hks (Nat.sub_le k l)]
      by_cases h1 : i = k - (k - l)
      · rw [if_pos h1]; exact hb k hkN
      · rw [if_neg h1]
        by_cases h2 : k - (k - l) < i ∧ i ≤ k
        · rw [if_pos h2]; exact hb _ (nA2 hi)
        · rw [if_neg h2]; exact hb i hi
    have lk : l ≤ k := l1
    have e0 : k - (k - l) = l := Nat.sub_sub_self lk
    have q : ∀ i, kp key (bubble p k (k - l)) i = if i = l then kp key p k else if l < i ∧ i ≤ k then kp key p (i - 1) else kp key p i := fun i => by rw [kp_bubble' hks (Nat.sub_le k l), e0]
    have qlt : ∀ i, i < l → kp key (bubble p k (k - l)) i = kp key p i := fun i h => by rw [q, if_neg (Nat.ne_of_lt h), if_neg fun z => Nat.lt_asymm h z.1]
    have qeq : kp key (bubble p k (k - l)) l = kp key p k := by rw [q, if_pos rfl]
    have qgt : ∀ i, l < i → i ≤ k → kp key (bubble p k (k - l)) i = kp key p (i - 1) := fun i h h' => by rw [q, if_neg (Nat.ne_of_gt h), if_pos ⟨h, h'⟩]
    have pk : ∀ {i}, l < i → i ≤ k → i - 1 < k := fun h h' => Nat.lt_of_lt_of_le (Nat.sub_lt (Nat.lt_of_le_of_lt (Nat.zero_le l) h) Nat.zero_lt_one) h'
    have srt : SrtP key (bubble p k (k - l)) (k + 1) := fun i j hij hj => by
      have hjk : j ≤ k := Nat.le_of_lt_succ hj
      rcases Nat.lt_trichotomy i l with hi | hi | hi
      · rw [qlt i hi]
        rcases Nat.lt_trichotomy j l with hj' | hj' | hj'
        · rw [qlt j hj']; exact hs i j hij (Nat.lt_of_lt_of_le hj' lk)
        · rw [hj', qeq]; exact l2 i hi
        · rw [qgt j hj' hjk]; exact hs i (j - 1) (Nat.le_pred_of_lt (Nat.lt_trans hi hj')) (pk hj' hjk)
      · rw [hi, qeq]
        by_cases hj' : j = l
        · rw [hj', qeq]; exact Int.le_refl _
        · have hlj : l < j := Nat.lt_of_le_of_ne (hi ▸ hij) (Ne.symm hj')
          rw [qgt j hlj hjk]; exact Int.le_of_lt (l3 (j - 1) (Nat.le_pred_of_lt hlj) (pk hlj hjk))
      · have hlj : l < j := Nat.lt_of_lt_of_le hi hij
        rw [qgt i hi (Nat.le_trans hij hjk), qgt j hlj hjk]
        exact hs (i - 1) (j - 1) (Nat.sub_le_sub_right hij 1) (pk hlj hjk)
    obtain ⟨⟨g1, g2⟩, g3⟩ := bin_ok f (bubble p k (k - l)) (k + 1) (nA0 h) ((bubble_size _ _ _).trans hsz) hb' srt
    exact ⟨⟨g1.trans (bubble_perm _ _ _), g2⟩, g3⟩
/-- the tree sorts -/
theorem sort_ok (key : Nat → Int) {n : Nat} (h2 : 2 ≤ n) : ((kev (klt key) (kas_sort n)).Perm (List.range n).toArray ∧ SrtP key (kev (klt key) (kas_sort n)) n) ∧ kin n (klt key) (kas_sort n) := by
  unfold kas_sort
  rw [kev_bind]
  have hsz : (List.range n).toArray.size = n := by simp
  have hb : BndP n (List.range n).toArray := fun i hi => by simp [Array.getD, hi]
  obtain ⟨c, ck⟩ := count_ok (key := key) (by omega) hsz hb
  have bind : ∀ {f : Nat × Array Nat → KasT (Array Nat)}, kin n (klt key) (f (kev (klt key) (kas_count n (List.range n).toArray))) → kin n (klt key) ((kas_count n (List.range n).toArray).bind f) := fun h => kin_bind ck h
  suffices hh : ((kev (klt key) ((fun r : Nat × Array Nat => if r.1 < n then kas_bin (n - max r.1 1) r.2 (max r.1 1) else KasT.ret r.2) (kev (klt key) (kas_count n (List.range n).toArray)))).Perm (List.range n).toArray ∧ SrtP key (kev (klt key) ((fun r : Nat × Array Nat => if r.1 < n then kas_bin (n - max r.1 1) r.2 (max r.1 1) else KasT.ret r.2) (kev (klt key) (kas_count n (List.range n).toArray)))) n) ∧ kin n (klt key) ((fun r : Nat × Array Nat => if r.1 < n then kas_bin (n - max r.1 1) r.2 (max r.1 1) else KasT.ret r.2) (kev (klt key) (kas_count n (List.range n).toArray))) from ⟨hh.1, bind hh.2⟩
  generalize kev (klt key) (kas_count n (List.range n).toArray) = r at c
  obtain ⟨m, p⟩ := r
  obtain ⟨c1, c2, c3, c4, c5, c6⟩ := c
  dsimp only at c1 c2 c3 c4 c5 c6 ⊢
  by_cases hm : m < n
  · rw [if_pos hm]
    have e : max m 1 = m := by omega
    rw [e]
    obtain ⟨⟨g1, g2⟩, g3⟩ := bin_ok (key := key) (n - m) p m (by omega) c2 c3 c6
    exact ⟨⟨g1.trans c1, g2⟩, g3⟩
  · rw [if_neg hm]
    have : m = n := by omega
    subst this
    exact ⟨⟨c1, c6⟩, trivial⟩
end Mine
end
section
open PySem PySem.W PySem.W.X PySem.Calls PyProof.Rows Builtin Builtin.Slots
set_option maxRecDepth 100000
namespace Mine
section
variable {α β : Type} {M : Model} {A : Around} {E : Value → Shared → Prop} {s : Shared}
theorem w_read {m : Sem α} {k : α → Sem β} {Q : β → Shared → Prop} {r : α} (h1 : ∀ Q' : α → Shared → Prop, Q' r s → wpAny M A m Q' E s) (h2 : wpAny M A (k r) Q E s) : wpAny M A (m >>= k) Q E s := wpAny_bind (h1 _ h2)
theorem w_eq {m : Sem α} {k : α → Sem β} {Q : β → Shared → Prop} {r : α} (e : m = pure r) (h2 : wpAny M A (k r) Q E s) : wpAny M A (m >>= k) Q E s := wpAny_bind (wpAny_of_eq e h2)
theorem w_if0 {c : Prop} [Decidable c] {a b : Sem α} {Q : α → Shared → Prop} (h : ¬ c) (x : wpAny M A b Q E s) : wpAny M A (if c then a else b) Q E s := by rw [if_neg h]; exact x
theorem w_if1 {c : Prop} [Decidable c] {a b : Sem α} {Q : α → Shared → Prop} (h : c) (x : wpAny M A a Q E s) : wpAny M A (if c then a else b) Q E s := by rw [if_pos h]; exact x
theorem w_id {t : Sem α} {Q : α → Shared → Prop} (x : wpAny M A t Q E s) : wpAny M A t Q E s := x
end

section
variable {α β : Type} {M : Model} {A : Around} {E : Value → Shared → Prop} {h₀ h : Heap} {chg news : List (Addr × Obj)} {g : Array GenState} {d : Drawn} {t : Nat} {os : OsState} {Q : β → Shared → Prop}
theorem w_f {s : Shared} {b : Bool} {x y : Sem β} (e : b = false) (h : wpAny M A y Q E s) : wpAny M A (if b = true then x else y) Q E s := by rw [e, if_neg (by decide)]; exact h
theorem w_t {s : Shared} {b : Bool} {x y : Sem β} (e : b = true) (h : wpAny M A x Q E s) : wpAny M A (if b = true then x else y) Q E s := by rw [e, if_pos rfl]; exact h
theorem w_nsg {s : Shared} {ns : Addr} {name : Str} {o : Obj} {r : Option Value} {k : Option Value → Sem β} (ho : s.heap.get? ns = some o) (e : nsLook name o = pure r) (x : wpAny M A (k r) Q E s) : wpAny M A (nsGet ns name >>= k) Q E s := by
  unfold nsGet
  exact wpAny_bind (wpAny_bind (wpAny_loadPart ho (wpAny_of_eq e x)))
theorem w_nss {ns : Addr} {name : Str} {v : Value} {k : Unit → Sem β} (D : Mem h₀ h chg news) (i : Nat) {es : Array DictEntry} {n : Nat} {c : Value} {dd : Option Addr} {sl : Array (Option Value)} (hi : news[i]? = some (ns, ⟨c, dd, .dict es n, sl⟩)) (hr : aRefKeyMayBeTheName name es = false) (es' : Array DictEntry)
    (he : Obj.putName name (if name.cps.isEmpty then 0 else reduceHash (M.w.params.strHash name.cps)) (.str name t) v ⟨c, dd, .dict es n, sl⟩ = ⟨c, dd, .dict es' (n + 1), sl⟩)
    (x : ∀ h', Mem h₀ h' chg (news.set i (ns, ⟨c, dd, .dict es' (n + 1), sl⟩)) → wpAny M A (k ()) Q E ⟨h', g, d, t + 1, os⟩) : wpAny M A (nsSet ns name v >>= k) Q E ⟨h, g, d, t, os⟩ := by
  have ho := D.at i _ _ hi
  have D' := D.update (f := Obj.putName name (if name.cps.isEmpty then 0 else reduceHash (M.w.params.strHash name.cps)) (.str name t) v) hi (by rw [he]; rfl)
  rw [he] at D'
  unfold nsSet strHash mkText
  refine wpAny_bind (wpAny_bind (wpAny_bind (wpAny_askSetting (wpAny_pure (wpAny_bind (wpAny_bind (wpAny_fresh (wpAny_pure (wpAny_bind (wpAny_loadPart ho ?_)))))))))) 
  dsimp only
  rw [hr]
  exact w_f rfl (wpAny_updatePart ho (x _ D'))
theorem w_nsv {ns : Addr} {name : Str} {v : Value} {k : Unit → Sem β} (D : Mem h₀ h chg news) (i : Nat) {es : Array DictEntry} {n : Nat} {c : Value} {dd : Option Addr} {sl : Array (Option Value)} (hi : news[i]? = some (ns, ⟨c, dd, .dict es n, sl⟩)) (hz : es.size < 1000) (hr : aRefKeyMayBeTheName name es = false) (es' : Array DictEntry)
    (he : Obj.putName name (if name.cps.isEmpty then 0 else reduceHash (M.w.params.strHash name.cps)) (.str name t) v ⟨c, dd, .dict es n, sl⟩ = ⟨c, dd, .dict es' (n + 1), sl⟩)
    (x : ∀ h', Mem h₀ h' chg (news.set i (ns, ⟨c, dd, .dict es' (n + 1), sl⟩)) → wpAny M A (k ()) Q E ⟨h', g, d, t + 1, os⟩) : wpAny M A (nsSetByValue ns name v >>= k) Q E ⟨h, g, d, t, os⟩ := by
  have := w_nss (M := M) (A := A) (E := E) (g := g) (d := d) (os := os) (k := pure) (Q := fun (_ : Unit) s' => wpAny M A (k ()) Q E s') D i hi hr es' he fun h' D' => wpAny_pure (x h' D')
  rw [bind_pure] at this
  unfold nsSetByValue
  refine wpAny_bind (wpAny_bind (wpAny_loadPart (D.at i _ _ hi) ?_))
  have hz' : decide (es.size > sizeLine) = false := decide_eq_false (by rw [sizeLine_eq]; omega)
  dsimp only
  rw [hz', Bool.false_and]
  exact w_f rfl this
theorem w_nsd {ns : Addr} {name : Str} {k : Bool → Sem β} (D : Mem h₀ h chg news) (i : Nat) {es : Array DictEntry} {n : Nat} {c : Value} {dd : Option Addr} {sl : Array (Option Value)} (hi : news[i]? = some (ns, ⟨c, dd, .dict es n, sl⟩)) (hh : nsHas name ⟨c, dd, .dict es n, sl⟩ = pure true) (es' : Array DictEntry)
    (he : Obj.dropName name ⟨c, dd, .dict es n, sl⟩ = ⟨c, dd, .dict es' (n + 1), sl⟩)
    (x : ∀ h', Mem h₀ h' chg (news.set i (ns, ⟨c, dd, .dict es' (n + 1), sl⟩)) → wpAny M A (k true) Q E ⟨h', g, d, t, os⟩) : wpAny M A (nsDel ns name >>= k) Q E ⟨h, g, d, t, os⟩ := by
  have ho := D.at i _ _ hi
  have D' := D.update (f := Obj.dropName name) hi (by rw [he]; rfl)
  rw [he] at D'
  unfold nsDel
  exact wpAny_bind (wpAny_bind (wpAny_loadPart ho (wpAny_bind (wpAny_of_eq hh (w_t rfl (wpAny_bind (wpAny_updatePart ho (wpAny_pure (x _ D')))))))))
theorem w_slot {a : Addr} {j : Nat} {v : Option Value} {k : Unit → Sem β} (D : Mem h₀ h chg news) (i : Nat) {c : Value} {dd : Option Addr} {dt : Data} {sl : Array (Option Value)} (hi : news[i]? = some (a, ⟨c, dd, dt, sl⟩)) (hj : j < 1000) (sl' : Array (Option Value)) (he : (sl ++ Array.replicate (j + 1 - sl.size) none).setIfInBounds j v = sl') (hf : (⟨c, dd, dt, sl⟩ : Obj).isFreed = false)
    (x : ∀ h', Mem h₀ h' chg (news.set i (a, ⟨c, dd, dt, sl'⟩)) → wpAny M A (k ()) Q E ⟨h', g, d, t, os⟩) : wpAny M A (setSlotAt a j v >>= k) Q E ⟨h, g, d, t, os⟩ := by
  subst he
  have ho := D.at i _ _ hi
  have D' := D.update (f := fun o => { o with slots := (o.slots ++ Array.replicate (j + 1 - o.slots.size) none).setIfInBounds j v }) hi (by cases dt <;> first | rfl | exact hf)
  unfold setSlotAt
  refine wpAny_bind (w_if0 (by rw [sizeLine_eq]; omega) (wpAny_updatePart ho (x _ D')))
theorem w_cls {a : Addr} {f : ClassData → ClassData} {k : Unit → Sem β} (D : Mem h₀ h chg news) (i : Nat) {c : Value} {dd : Option Addr} {cd : ClassData} {sl : Array (Option Value)} (hi : news[i]? = some (a, ⟨c, dd, .cls cd, sl⟩)) (cd' : ClassData) (he : f cd = cd') (hp : (Data.cls cd').pastItsLine = none)
    (x : ∀ h', Mem h₀ h' chg (news.set i (a, ⟨c, dd, .cls cd', sl⟩)) → wpAny M A (k ()) Q E ⟨h', g, d, t, os⟩) : wpAny M A (updateCls a f >>= k) Q E ⟨h, g, d, t, os⟩ := by
  subst he
  have ho := D.at i _ _ hi
  have D' := D.update (f := Obj.mapCls f) hi rfl
  have hl : i < news.length := (List.getElem?_eq_some_iff.mp hi).1
  have ho' := D'.at i a _ (List.getElem?_set_self hl)
  unfold updateCls lookBehind
  refine wpAny_bind (wpAny_bind (wpAny_load ho ?_))
  refine wpAny_bind (wpAny_update ho ?_)
  refine wpAny_bind (wpAny_loadPart ho' ?_)
  have hp' : (Obj.mapCls f ⟨c, dd, .cls cd, sl⟩).data.pastItsLine = none := hp
  rw [hp']
  exact wpAny_pure (x _ D')
theorem w_new {T : String} {dt : Data} {k : Value → Sem β} (D : Mem h₀ h chg news) (e : newObj (.type T) dt = newObjAsIs (.type T) dt) (hf : (⟨.type T, none, dt, #[]⟩ : Obj).isFreed = false)
    (x : ∀ a h', Mem h₀ h' chg ((a, ⟨.type T, none, dt, #[]⟩) :: news) → wpAny M A (k (.ref a)) Q E ⟨h', g, d, t, os⟩) : wpAny M A (newObj (.type T) dt >>= k) Q E ⟨h, g, d, t, os⟩ := by
  rw [e]
  unfold newObjAsIs
  exact wpAny_bind (wpAny_bind (wpAny_alloc (wpAny_pure (x _ _ (D.alloc hf)))))
theorem w_al {o : Obj} {k : Addr → Sem β} (D : Mem h₀ h chg news) (hf : o.isFreed = false) (x : ∀ a h', Mem h₀ h' chg ((a, o) :: news) → wpAny M A (k a) Q E ⟨h', g, d, t, os⟩) : wpAny M A (alloc o >>= k) Q E ⟨h, g, d, t, os⟩ := wpAny_bind (wpAny_alloc (x _ _ (D.alloc hf)))
end
section
variable {α β : Type} {M : Model} {A : Around} {E : Value → Shared → Prop} {s : Shared} {Q : β → Shared → Prop}
theorem w_tl1 {C N : Addr} {name : Str} {c : Value} {dd : Option Addr} {cd : ClassData} {sl : Array (Option Value)} {o : Obj} {v : Value} {Q : Option Value → Shared → Prop} (hC : s.heap.get? C = some ⟨c, dd, .cls cd, sl⟩) (hm : cd.mro = [.ref C, .type "object"]) (hN : cd.ns = N) (hn : s.heap.get? N = some o) (e : nsLook name o = pure (some v)) (q : Q (some v) s) : wpAny M A (typeLookup (.ref C) name) Q E s := by
  subst hN
  unfold typeLookup mroOf classData
  refine wpAny_bind (wpAny_bind (wpAny_bind (wpAny_load hC (wpAny_pure (wpAny_pure ?_)))))
  rw [hm, List.forIn_cons]
  unfold classOwn classData
  refine wpAny_bind (wpAny_bind (wpAny_bind (wpAny_bind (wpAny_bind (wpAny_load hC (wpAny_pure ?_))))))
  unfold nsGet
  exact wpAny_bind (wpAny_loadPart hn (wpAny_of_eq e (wpAny_pure (wpAny_pure (wpAny_pure q)))))
theorem w_tl0 {C N : Addr} {name : Str} {c : Value} {dd : Option Addr} {cd : ClassData} {sl : Array (Option Value)} {o : Obj} {r : Option Value} {Q : Option Value → Shared → Prop} (hC : s.heap.get? C = some ⟨c, dd, .cls cd, sl⟩) (hm : cd.mro = [.ref C, .type "object"]) (hN : cd.ns = N) (hn : s.heap.get? N = some o) (e : nsLook name o = pure none) (e' : builtinOwn "object" name = r) (q : Q r s) : wpAny M A (typeLookup (.ref C) name) Q E s := by
  subst hN
  unfold typeLookup mroOf classData
  refine wpAny_bind (wpAny_bind (wpAny_bind (wpAny_load hC (wpAny_pure (wpAny_pure ?_)))))
  rw [hm, List.forIn_cons]
  unfold classOwn classData
  refine wpAny_bind (wpAny_bind (wpAny_bind (wpAny_bind (wpAny_bind (wpAny_load hC (wpAny_pure ?_))))))
  unfold nsGet
  refine wpAny_bind (wpAny_loadPart hn (wpAny_of_eq e (wpAny_pure ?_)))
  show wpAny _ _ (forIn [Value.type "object"] _ _) _ _ _
  rw [List.forIn_cons]
  refine wpAny_bind (wpAny_bind (wpAny_pure ?_))
  rw [e']
  cases r with
  | none => exact wpAny_pure (wpAny_pure (wpAny_pure q))
  | some v => exact wpAny_pure (wpAny_pure (wpAny_pure q))
theorem w_mkStr {n : Str} {k : Value → Sem β} (hn : n.length < 1000) (x : wpAny M A (k (.str n s.toks)) Q E { s with toks := s.toks + 1 }) : wpAny M A (mkStr n >>= k) Q E s := by
  unfold mkStr
  refine wpAny_bind (w_if0 (by rw [sizeLine_eq]; omega) (wpAny_bind (wpAny_fresh (wpAny_pure x))))
theorem w_each {γ : Type} {body : γ → PUnit → Sem (ForInStep PUnit)} {Q : PUnit → Shared → Prop} : ∀ {l : List γ}, (∀ e ∈ l, ∀ Q' : ForInStep PUnit → Shared → Prop, Q' (.yield ⟨⟩) s → wpAny M A (body e ⟨⟩) Q' E s) → Q ⟨⟩ s → wpAny M A (forIn l PUnit.unit body) Q E s
  | [], _, q => by rw [List.forIn_nil]; exact wpAny_pure q
  | e :: l, hb, q => by
    rw [List.forIn_cons]
    exact wpAny_bind (hb e (.head _) _ (w_each (l := l) (fun e' he => hb e' (.tail _ he)) q))
end
section
variable {M : Model} {A : Around} {E : Value → Shared → Prop} {h₀ h : Heap} {chg news : List (Addr × Obj)} {g : Array GenState} {d : Drawn} {t : Nat} {os : OsState} {Q : Unit → Shared → Prop}
theorem w_cls0 {a : Addr} {f : ClassData → ClassData} (D : Mem h₀ h chg news) (i : Nat) {c : Value} {dd : Option Addr} {cd : ClassData} {sl : Array (Option Value)} (hi : news[i]? = some (a, ⟨c, dd, .cls cd, sl⟩)) (cd' : ClassData) (he : f cd = cd') (hp : (Data.cls cd').pastItsLine = none)
    (x : ∀ h', Mem h₀ h' chg (news.set i (a, ⟨c, dd, .cls cd', sl⟩)) → Q () ⟨h', g, d, t, os⟩) : wpAny M A (updateCls a f) Q E ⟨h, g, d, t, os⟩ := by
  have := w_cls (M := M) (A := A) (E := E) (g := g) (d := d) (t := t) (os := os) (k := pure) (Q := Q) D i hi cd' he hp fun h' D' => wpAny_pure (x h' D')
  rw [bind_pure] at this
  exact this
end
theorem s_tup : isSubtype (.type "tuple") (.type "tuple") = pure true := by rw [isSubtype_type]; kernel_rfl
theorem s_dict : isSubtype (.type "dict") (.type "dict") = pure true := by rw [isSubtype_type]; kernel_rfl
theorem s_type : isSubtype (.type "type") (.type "type") = pure true := by rw [isSubtype_type]; kernel_rfl
theorem t_obj : typeOf (.type "object") = pure (.type "type") := by kernel_rfl
theorem e_ext : extendedBase [.type "object"] = pure (.type "object") := by kernel_rfl
theorem e_not : notOverATurnedClass [.type "object"] = pure () := by kernel_rfl
theorem l_iter : typeLookup (.type "dict") "__iter__" = pure (some (.builtin "dict.__iter__")) := by rw [typeLookup_type, builtinLookup_eq_fast]; kernel_rfl
theorem l_mro : typeLookup (.type "type") "mro" = pure (some (.builtin "type.mro")) := by rw [typeLookup_type, builtinLookup_eq_fast]; kernel_rfl
theorem e_hook : mroHook? (.type "type") = pure none := by unfold mroHook?; rw [l_mro]; rfl
theorem e_lin : linearize [.type "object"] mroOf = pure [.type "object"] := by kernel_rfl
theorem e_made : Bind.madeBy (.type "object") = pure (some "object.__new__") := by kernel_rfl
theorem e_best : bestBase [.type "object"] = pure (.type "object") := by kernel_rfl
theorem e_sn : slotNamesOf (.type "object") = pure [] := by kernel_rfl
theorem e_gd : givesDict (.type "object") = pure false := by kernel_rfl
theorem e_gw : givesWeak (.type "object") = pure false := by kernel_rfl
theorem e_vs : varSize (.type "object") = pure false := by kernel_rfl
theorem l_newo : builtinOwn "object" "__new__" = some (.builtin "object.__new__") := by kernel_rfl
theorem e_note (C : Addr) : noteSubclassOfBuiltin "object" C = pure () := by kernel_rfl
theorem n_str : typeLookup (.type "str") "__set_name__" = pure none := by rw [typeLookup_type, builtinLookup_eq_fast]; kernel_rfl
theorem n_int : typeLookup (.type "int") "__set_name__" = pure none := by rw [typeLookup_type, builtinLookup_eq_fast]; kernel_rfl
theorem n_list : typeLookup (.type "list") "__set_name__" = pure none := by rw [typeLookup_type, builtinLookup_eq_fast]; kernel_rfl
theorem n_fn : typeLookup (.type "function") "__set_name__" = pure none := by rw [typeLookup_type, builtinLookup_eq_fast]; kernel_rfl
theorem n_none : typeLookup (.type "NoneType") "__set_name__" = pure none := by rw [typeLookup_type, builtinLookup_eq_fast]; kernel_rfl
theorem n_tup : typeLookup (.type "tuple") "__set_name__" = pure none := by rw [typeLookup_type, builtinLookup_eq_fast]; kernel_rfl
theorem n_mem : typeLookup (.type "member_descriptor") "__set_name__" = pure none := by rw [typeLookup_type, builtinLookup_eq_fast]; kernel_rfl
def ent (P : Params) (n : Str) (t : Tok) (v : Value) : DictEntry := { hash := PyData.keyHash P n, key := .str n t, val := v }
end Mine
end
section
open PySem PySem.W PySem.W.X PySem.Calls PyProof.Rows Builtin Builtin.Slots
set_option maxRecDepth 100000
namespace Mine
section
variable {prog : Program} {w : World} {A : Around} {E : Value → Shared → Prop} {h : Heap} {g : Array GenState} {d : Drawn} {t : Nat} {os : OsState}
theorem looks_mro {C : Addr} {c : Value} {dd : Option Addr} {cd : ClassData} {sl : Array (Option Value)} (hC : h.get? C = some ⟨c, dd, .cls cd, sl⟩) : Looks (model prog w) h (mroOf (.ref C)) cd.mro := by
  intro A Q E s k q
  unfold mroOf classData
  exact wpAny_bind (wpAny_bind (wpAny_load (k _ _ hC) (wpAny_pure (wpAny_pure q))))
theorem looks_sub {C : Addr} {c : Value} {dd : Option Addr} {cd : ClassData} {sl : Array (Option Value)} {b : Value} {r : Bool} (hC : h.get? C = some ⟨c, dd, .cls cd, sl⟩) (hm : cd.mro.isEmpty = false) (hr : cd.mro.contains b = r) : Looks (model prog w) h (isSubtype (.ref C) b) r := by
  intro A Q E s k q
  unfold isSubtype
  refine wpAny_bind (looks_mro hC A _ E s k ?_)
  dsimp only
  rw [hm, if_neg (by decide), hr]
  exact wpAny_pure q
theorem super_self {C : Addr} {oC : Obj} {cd : ClassData} {Q : Value → Shared → Prop} (hC : h.get? C = some oC) (hd : oC.data = .cls cd) (hsub : Looks (model prog w) h (isSubtype (.ref C) (.ref C)) true)
    (hq : ∀ h', h'.get? h.objs.size = some { cls := .type "super", dict := none, data := .fields #[.ref C, .ref C, .ref C], slots := #[] } → (∀ y o, h.get? y = some o → h'.get? y = some o) → Q (.ref h.objs.size) ⟨h', g, d, t, os⟩) :
    wpAny (model prog w) A (call (.type "super") [.ref C, .ref C]) Q E ⟨h, g, d, t, os⟩ := by
  refine ks_callType_codesW (Q₁ := fun obj s₁ => obj = .ref h.objs.size ∧ s₁ = ⟨h.push { cls := .type "super", data := .fields #[.none, .none, .none] }, g, d, t, os⟩) F.ks_called_super (ks_wpAny_checkTypeCall_super hC hd) F.ks_entry_super_init
    (ks_code_super_new _ _ ⟨rfl, rfl⟩) fun obj s₁ h₁ => ?_
  obtain ⟨rfl, rfl⟩ := h₁
  have up : ∀ y o, h.get? y = some o → (h.push { cls := .type "super", data := .fields #[.none, .none, .none] }).get? y = some o := fun y o e => Heap.get?_push_of_some _ e
  have hso : (h.push { cls := .type "super", data := .fields #[.none, .none, .none] }).get? h.objs.size = some { cls := .type "super", dict := none, data := .fields #[.none, .none, .none], slots := #[] } := Heap.get?_push_at rfl rfl
  have hC' := up _ _ hC
  have hsub' := hsub.keeps up
  refine ⟨⟨_, hso, rfl⟩, F.ks_initArgs_super _ _ _, ?_⟩
  unfold Builtin.«super.__init__» noKeywords
  repeat (first | (with_reducible refine ks_wpAny_isType_cls hC' hd ?_) | (with_reducible refine Looks.at hsub' ?_) | (with_reducible refine ks_wpAny_super_set3 hso ?_) | wp_step)
  all_goals first
    | (intro h' e k; exact ⟨rfl, hq h' e fun y o ey => k y o (Nat.ne_of_lt (Heap.lt_size ey)) (up y o ey)⟩)
    | (refine ks_wpAny_super_set3 hso ?_; intro h' e k; exact ⟨rfl, hq h' e fun y o ey => k y o (Nat.ne_of_lt (Heap.lt_size ey)) (up y o ey)⟩)
theorem t_is : typeOf (.builtin "object.__init_subclass__") = pure (.type "classmethod_descriptor") := by kernel_rfl
theorem l_is : typeLookup (.type "classmethod_descriptor") "__get__" = pure (some (.builtin "classmethod_descriptor.__get__")) := by rw [typeLookup_type, builtinLookup_eq_fast]; kernel_rfl
theorem o_is : builtinOwn "object" "__init_subclass__" = some (.builtin "object.__init_subclass__") := by kernel_rfl
theorem slot_cmd : Slot "classmethod_descriptor" "__get__" "classmethod_descriptor.__get__" := .of (owner := "classmethod_descriptor") (n := "__get__") l_is (by decide +kernel) (by decide +kernel) (by decide +kernel)
  (by first | exact .inl (by decide +kernel) | exact .inr (by decide +kernel)) (by rw [isSubtype_type]; kernel_rfl)
theorem entry_cmd : entryFor table "classmethod_descriptor.__get__" = some Builtin.«classmethod_descriptor.__get__» := entryFor_of_tree (by kernel_rfl)
theorem args_cmd (a b c : Value) : argsOk "classmethod_descriptor.__get__" ⟨[a, b, c], []⟩ := by unfold argsOk; kernel_rfl
theorem looks_clear {C : Addr} {o : Obj} (ho : h.get? cStatics = some o) (e : nsLook "thirdparty.any" o = pure none) : Looks (model prog w) h (opaqueClassAbove (.ref C)) none := by
  intro A Q E s k q
  unfold opaqueClassAbove anyOpaqueLoaded nsGet
  refine wpAny_bind (wpAny_bind (wpAny_bind (wpAny_loadPart (k _ _ ho) (wpAny_of_eq e (wpAny_pure ?_)))))
  exact wpAny_pure q
theorem cmd_get {C : Addr} {c : Value} {dd : Option Addr} {cd : ClassData} {sl : Array (Option Value)} {Q : Value → Shared → Prop} (hC : h.get? C = some ⟨c, dd, .cls cd, sl⟩) (hm : cd.mro = [.ref C, .type "object"])
    (hq : Q (.ref h.objs.size) ⟨h.push { cls := .type "builtin_function_or_method", data := .fields #[.builtin "object.__init_subclass__", .ref C] }, g, d, t, os⟩) :
    wpAny (model prog w) A (call (.builtin "classmethod_descriptor.__get__") [.builtin "object.__init_subclass__", .none, .ref C]) Q E ⟨h, g, d, t, os⟩ := by
  refine wpAny_call_entry slot_cmd t_is entry_cmd ?_ (args_cmd _ _ _)
  unfold Builtin.«classmethod_descriptor.__get__»
  refine wpAny_bind (wpAny_of_eq (a := (Value.builtin "object.__init_subclass__", none, some (.ref C))) (by kernel_rfl) ?_)
  refine wpAny_bind (wpAny_pure ?_)
  refine wpAny_bind (ks_wpAny_isType_cls hC rfl ?_)
  rw [if_neg (by decide)]
  refine wpAny_bind (Looks.at (looks_sub (r := true) hC (by rw [hm]; rfl) (by rw [hm]; kernel_rfl)) ?_)
  rw [if_neg (by decide)]
  unfold newFields
  refine wpAny_bind ?_
  rw [show newObj (.type "builtin_function_or_method") (.fields [Value.builtin "object.__init_subclass__", .ref C].toArray) = newObjAsIs (.type "builtin_function_or_method") (.fields #[Value.builtin "object.__init_subclass__", .ref C]) by kernel_rfl]
  unfold newObjAsIs
  exact wpAny_bind (wpAny_alloc (wpAny_pure (wpAny_pure ⟨_, rfl, hq⟩)))
theorem super_get {so C : Addr} {c : Value} {dd : Option Addr} {cd : ClassData} {sl : Array (Option Value)} {o : Obj} {tk : Tok} {Q : PySem.Fin → Shared → Prop} (hC : h.get? C = some ⟨c, dd, .cls cd, sl⟩) (hm : cd.mro = [.ref C, .type "object"])
    (ho : h.get? cStatics = some o) (e : nsLook "thirdparty.any" o = pure none) (hso : h.get? so = some { cls := .type "super", dict := none, data := .fields #[.ref C, .ref C, .ref C], slots := #[] })
    (hq : Q (.done (.ret (.ref h.objs.size))) ⟨h.push { cls := .type "builtin_function_or_method", data := .fields #[.builtin "object.__init_subclass__", .ref C] }, g, d, t, os⟩) :
    wpAny (model prog w) A (Builtin.«super.__getattribute__» ⟨[.ref so, .str "__init_subclass__" tk], []⟩) Q E ⟨h, g, d, t, os⟩ := by
  have hdt : ({ cls := .type "super", dict := none, data := .fields #[.ref C, .ref C, .ref C], slots := #[] } : Obj).data = .fields #[.ref C, .ref C, .ref C] := rfl
  have f0 : (#[.ref C, .ref C, .ref C] : Array Value)[0]? = some (.ref C) := rfl
  have f1 : (#[.ref C, .ref C, .ref C] : Array Value)[1]? = some (.ref C) := rfl
  have f2 : (#[.ref C, .ref C, .ref C] : Array Value)[2]? = some (.ref C) := rfl
  unfold Builtin.«super.__getattribute__»
  refine wpAny_bind (wpAny_of_eq (a := some ("__init_subclass__" : Str)) rfl ?_)
  rw [if_neg (by decide)]
  refine wpAny_bind (wpAny_of_eq (a := some ("__init_subclass__" : Str)) rfl ?_)
  refine wpAny_bind (wpAny_field hso hdt f0 ?_)
  refine wpAny_bind (wpAny_field hso hdt f1 ?_)
  refine wpAny_bind (wpAny_field hso hdt f2 ?_)
  rw [if_neg (show ¬ (Value.ref C == Value.none || (("__init_subclass__" : Str) == ("__class__" : Str))) = true by rw [show (Value.ref C == Value.none || (("__init_subclass__" : Str) == ("__class__" : Str))) = false by kernel_rfl]; decide)]
  refine wpAny_bind (ks_wpAny_notOpaque (looks_clear ho e) ?_)
  rw [if_neg (show ¬ (Value.ref C == Value.type "module") = true by rw [show (Value.ref C == Value.type "module") = false by kernel_rfl]; decide)]
  refine wpAny_bind (Looks.at (looks_mro hC) ?_)
  rw [hm]
  rw [show List.drop 1 (List.dropWhile (fun x => x != Value.ref C) [Value.ref C, Value.type "object"]) = [.type "object"] by simp]
  rw [show (if (Value.ref C == Value.ref C) = true then Value.none else Value.ref C) = Value.none by simp]
  refine wpAny_bind ?_
  rw [List.forIn_cons]
  refine wpAny_bind (wpAny_bind (wpAny_of_eq (a := some (Value.builtin "object.__init_subclass__")) (by show pure (builtinOwn "object" "__init_subclass__") = _; rw [o_is]) ?_))
  refine wpAny_bind (wpAny_of_eq t_is ?_)
  refine wpAny_bind (wpAny_of_eq l_is ?_)
  refine wpAny_bind (wpAny_holding (cmd_get hC hm ?_))
  exact wpAny_bind (wpAny_pure (wpAny_pure (wpAny_pure (wpAny_pure hq))))
theorem getAttr_super {so C : Addr} {c : Value} {dd : Option Addr} {cd : ClassData} {sl : Array (Option Value)} {o : Obj} {Q : Value → Shared → Prop} (hC : h.get? C = some ⟨c, dd, .cls cd, sl⟩) (hm : cd.mro = [.ref C, .type "object"])
    (ho : h.get? cStatics = some o) (e : nsLook "thirdparty.any" o = pure none) (hso : h.get? so = some { cls := .type "super", dict := none, data := .fields #[.ref C, .ref C, .ref C], slots := #[] })
    (hq : Q (.ref h.objs.size) ⟨h.push { cls := .type "builtin_function_or_method", data := .fields #[.builtin "object.__init_subclass__", .ref C] }, g, d, t + 1, os⟩) :
    wpAny (model prog w) A (getAttr (.ref so) "__init_subclass__") Q E ⟨h, g, d, t, os⟩ := by
  have hlk := F.ks_slot_super_ga.lookup
  have hT : ∀ t', (⟨h, g, d, t', os⟩ : Shared).TypeIs (.ref so) "super" := fun _ => ⟨_, hso, rfl⟩
  unfold getAttr getAttrBy
  refine wpAny_bind (wpAny_mkText (wpAny_holding (wpAny_bind (wpAny_typeOf (hT _) (wpAny_bind (wpAny_of_eq hlk ?_))))))
  show wpAny _ _ (getAttrByItsOwn (.ref so) (.str "__init_subclass__" t) (.type "super") (.builtin "super.__getattribute__") true false) _ _ _
  unfold getAttrByItsOwn hookBefore callGetattribute boundAndCalled
  refine wpAny_bind (wpAny_of_eq (show (if onTheHeap (.type "super") then typeLookup (.type "super") "__getattr__" else pure none) = pure none from rfl) ?_)
  refine wpAny_bind (wpAny_attempt (wpAny_holding ?_))
  show wpAny _ _ (bindSpecial (.builtin "super.__getattribute__") (.ref so) >>= _) _ _ _
  refine wpAny_bind (wpAny_of_eq (F.ks_slot_super_ga.bind _) ?_)
  refine wpAny_mono (Q := fun v s' => v = .ref h.objs.size ∧ s' = ⟨h.push { cls := .type "builtin_function_or_method", data := .fields #[.builtin "object.__init_subclass__", .ref C] }, g, d, t + 1, os⟩) (E := fun _ _ => False)
    (wpAny_call_entry F.ks_slot_super_ga (hT _) F.ks_entry_super_ga (super_get hC hm ho e hso ⟨_, rfl, rfl, rfl⟩) (F.ks_gaArgs_super _ _)) (fun v s' hv => ?_) fun _ _ z => z.elim
  obtain ⟨rfl, rfl⟩ := hv
  exact wpAny_pure hq
theorem entry_is : entryFor table "object.__init_subclass__" = some Builtin.«object.__init_subclass__» := entryFor_of_tree (by kernel_rfl)
theorem sig_is : Manifest.signature? "object.__init_subclass__" = some ⟨.noArgs, "object.__init_subclass__", "__init_subclass__", .cls, []⟩ := by kernel_rfl
theorem kind_is : builtinKind "object.__init_subclass__" = some .classMethod := by decide +kernel
theorem s_mod : isSubtype (.type "type") (.type "module") = pure false := by rw [isSubtype_type]; kernel_rfl
theorem check_is {C : Addr} {dd : Option Addr} {cd : ClassData} {sl : Array (Option Value)} {Q : Unit → Shared → Prop} (hC : h.get? C = some ⟨.type "type", dd, .cls cd, sl⟩) (hqn : cd.qualname = "cmp_to_key.<locals>.K") (hq : Q () ⟨h, g, d, t, os⟩) : wpAny (model prog w) A (checkBoundCall "object.__init_subclass__" ⟨[.ref C], []⟩) Q E ⟨h, g, d, t, os⟩ := by
  unfold checkBoundCall
  rw [sig_is, kind_is]
  dsimp only
  refine w_if0 (by decide) ?_
  refine wpAny_bind (wpAny_isInstance ⟨_, hC, rfl⟩ s_mod ?_)
  refine w_if0 (by decide +kernel) ?_
  refine wpAny_bind (ks_wpAny_isType_cls hC rfl ?_)
  refine w_if1 rfl ?_
  refine wpAny_bind (wpAny_pure ?_)
  unfold classData
  refine wpAny_bind (wpAny_bind (wpAny_load hC (wpAny_pure ?_)))
  refine wpAny_bind (wpAny_typeOf (T := "type") ⟨_, hC, rfl⟩ ?_)
  refine w_if1 (by decide) ?_
  rw [hqn]
  exact wpAny_of_eq (a := ()) (by kernel_rfl) hq
theorem call_is {b C : Addr} {dd : Option Addr} {cd : ClassData} {sl : Array (Option Value)} {Q : Value → Shared → Prop} (hC : h.get? C = some ⟨.type "type", dd, .cls cd, sl⟩) (hqn : cd.qualname = "cmp_to_key.<locals>.K") (hb : h.get? b = some { cls := .type "builtin_function_or_method", dict := none, data := .fields #[.builtin "object.__init_subclass__", .ref C], slots := #[] })
    (hq : Q .none ⟨h, g, d, t, os⟩) : wpAny (model prog w) A (call (.ref b) []) Q E ⟨h, g, d, t, os⟩ := by
  refine wpAny_call (codeAny_of_tree ?_)
  show wpAny _ A.in1 (callAny (.ref b) _) _ _ _
  unfold callAny
  refine wpAny_bind (wpAny_load hb ?_)
  refine w_t (by kernel_rfl) ?_
  refine w_t (by kernel_rfl) ?_
  refine wpAny_bind (check_is hC hqn ?_)
  refine wpAny_pure ⟨Code.quiet_builtin _ (by decide +kernel), codeAny_builtin entry_is ?_⟩
  unfold Builtin.«object.__init_subclass__»
  refine w_t rfl ?_
  first | exact wpAny_pure hq | exact wpAny_bind (M := model prog w) (E := fun e s' => E e s') (wpAny_pure (wpAny_pure hq))
end
end Mine
end
section
open PySem PySem.W PySem.W.X PySem.Calls PyProof.Rows Builtin Builtin.Slots
set_option maxRecDepth 100000
namespace Mine
local macro_rules | `(tactic| lk) => `(tactic| first | with_reducible refine wpAny_of_eq s_type ?_ | with_reducible refine wpAny_of_eq t_obj ?_ | with_reducible refine wpAny_of_eq l_iter ?_)
set_option maxHeartbeats 0 in
theorem slots_read {w : World} {A : Around} {h : Heap} {g d t os} {Q : Plan → Shared → Prop} {E : Value → Shared → Prop} (sl f0 f1 f2 f3 f4 f5 st : Addr) (e2 : Nat) (t1 t2 t3 t4 t5 t6 t7 t8 t9 t10 t11 t12 u1 u2 u3 v1 : Tok)
   (hsl : h.get? sl = some (seqObj "list" #[.str "obj" v1] e2))
   (hq : ∀ a o h', Mem h h' [] [(a, o)] → Q ⟨["obj"], false, false, []⟩ ⟨h', g, d, t, os⟩) :
   wpAny (MM w) A (Slots.read "K" [.type "object"] #[ent w.params "__module__" t1 (.str "cpy313.functools" u1), ent w.params "__qualname__" t2 (.str "cmp_to_key.<locals>.K" u2), ent w.params "__firstlineno__" t3 (.int 16 u3), ent w.params "__slots__" t4 (.ref sl), ent w.params "__init__" t5 (.ref f0), ent w.params "__lt__" t6 (.ref f1), ent w.params "__gt__" t7 (.ref f2), ent w.params "__eq__" t8 (.ref f3), ent w.params "__le__" t9 (.ref f4), ent w.params "__ge__" t10 (.ref f5), ent w.params "__hash__" t11 .none, ent w.params "__static_attributes__" t12 (.ref st)]) Q E ⟨h, g, d, t, os⟩ := by
  unfold Slots.read
  refine w_eq e_best ?_
  refine w_eq e_sn ?_
  refine w_eq e_gd ?_
  refine w_eq e_gw ?_
  refine w_eq e_vs ?_
  refine w_read (r := ()) (fun Q q => wpAny_rule q) ?_
  refine w_read (r := none) (fun Q q => by (repeat lk); exact q) ?_
  refine w_if0 (by decide) ?_
  refine wpAny_bind (collect_list (vs := [.str "obj" v1]) ⟨_, hsl, rfl, _, rfl⟩ ?_)
  have D := ((Mem.start h).alloc (o := seqObj "list" #[] 0) rfl).update (i := 0) (f := Obj.mapSeq (· ++ #[Value.str "obj" v1])) rfl rfl
  generalize ((Heap.push h (seqObj "list" #[] 0)).update (Array.size h.objs) (Obj.mapSeq (· ++ #[Value.str "obj" v1]))) = h' at D
  refine w_t rfl ?_
  refine w_eq e_vs ?_
  refine w_f rfl ?_
  refine w_eq (r := (false, false, #["obj"], [])) (by kernel_rfl) ?_
  refine w_eq (r := (["obj"], 3)) (by kernel_rfl) ?_
  refine w_eq (r := (false, false)) (by kernel_rfl) ?_
  refine wpAny_pure ?_
  exact hq _ _ _ D
set_option maxHeartbeats 0 in
theorem type_new {w : World} {A : Around} {h : Heap} {g d t os} {Q : PySem.Fin → Shared → Prop} {E : Value → Shared → Prop} (tnm : Tok) (bt nsA sl f0 f1 f2 f3 f4 f5 st : Addr) (e1 e2 n1 n2 : Nat) (t1 t2 t3 t4 t5 t6 t7 t8 t9 t10 t11 t12 u1 u2 u3 v1 : Tok)
   (hbt : h.get? bt = some (seqObj "tuple" #[.type "object"] e1))
   (hsl : h.get? sl = some (seqObj "list" #[.str "obj" v1] e2))
   (hns : h.get? nsA = some ⟨.type "dict", none, .dict #[ent w.params "__module__" t1 (.str "cpy313.functools" u1), ent w.params "__qualname__" t2 (.str "cmp_to_key.<locals>.K" u2), ent w.params "__firstlineno__" t3 (.int 16 u3), ent w.params "__slots__" t4 (.ref sl), ent w.params "__init__" t5 (.ref f0), ent w.params "__lt__" t6 (.ref f1), ent w.params "__gt__" t7 (.ref f2), ent w.params "__eq__" t8 (.ref f3), ent w.params "__le__" t9 (.ref f4), ent w.params "__ge__" t10 (.ref f5), ent w.params "__hash__" t11 .none, ent w.params "__static_attributes__" t12 (.ref st)] n1, #[]⟩)
   (hnm : (nsA == sysModules) = false) (hf : ∀ f ∈ [f0, f1, f2, f3, f4, f5], ∃ o, h.get? f = some o ∧ o.cls = .type "function") (hst : ∃ o, h.get? st = some o ∧ o.cls = .type "tuple") {o2 : Obj} (h2 : h.get? cStatics = some o2) (h2' : nsLook "thirdparty.any" o2 = pure none)
   (hq : ∀ C N p n' h' tk, (∀ b o, h.get? b = some o → h'.get? b = some o) → h.get? C = none → h.get? N = none → h.get? p = none →
     h'.get? C = some ⟨.type "type", none, .cls { name := "K", bases := [.type "object"], mro := [.ref C, .type "object"], ns := N, qualname := "cmp_to_key.<locals>.K", hasDel := false, hasDict := false, slotNames := ["obj"] }, #[some (.ref bt), none, some (.str "K" tnm), some (.str "cmp_to_key.<locals>.K" u2), some (.builtin "object.__new__"), some (.bool false)]⟩ →
     h'.get? N = some ⟨.type "dict", none, .dict #[ent w.params "__module__" t1 (.str "cpy313.functools" u1), ent w.params "__firstlineno__" t3 (.int 16 u3), ent w.params "__slots__" t4 (.ref sl), ent w.params "__init__" t5 (.ref f0), ent w.params "__lt__" t6 (.ref f1), ent w.params "__gt__" t7 (.ref f2), ent w.params "__eq__" t8 (.ref f3), ent w.params "__le__" t9 (.ref f4), ent w.params "__ge__" t10 (.ref f5), ent w.params "__hash__" t11 .none, ent w.params "__static_attributes__" t12 (.ref st), ent w.params "obj" (t + 1) (.ref p), ent w.params "__doc__" (t + 2) .none] n', #[]⟩ →
     h'.get? p = some ⟨.type "member_descriptor", none, .fields #[.str "obj" t, .ref C, .builtin "proto.slot", .builtin "proto.slot#set", rawInt 0], #[]⟩ →
     Q (.done (.ret (.ref C))) ⟨h', g, d, tk, os⟩) :
   wpAny (MM w) A (Builtin.«type.__new__» ⟨[.type "type", .str "K" tnm, .ref bt, .ref nsA], []⟩) Q E ⟨h, g, d, t, os⟩ := by
  unfold Builtin.«type.__new__»
  refine w_eq (r := some "K") rfl ?_
  refine w_read (r := true) (fun Q q => wpAny_isInstance ⟨_, hbt, rfl⟩ s_tup q) ?_
  refine w_if0 (by decide) ?_
  refine w_read (r := true) (fun Q q => wpAny_isInstance ⟨_, hns, rfl⟩ s_dict q) ?_
  refine w_if0 (by decide) ?_
  refine w_read (r := some #[.type "object"]) (fun Q q => by (repeat lk); exact q) ?_
  refine w_if0 (by decide) ?_
  refine w_read (r := PUnit.unit) (fun Q q => by (repeat lk); exact q) ?_
  refine w_read (r := .type "type") (fun Q q => by (repeat lk); exact q) ?_
  refine w_if0 (by decide) ?_
  refine w_eq (r := ()) e_not ?_
  refine w_eq (r := .type "object") e_ext ?_
  refine w_if0 (by rw [hnm]; decide) ?_
  refine w_read (fun Q q => by (repeat lk); exact q) ?_
  refine w_read (r := some (.builtin "dict.__iter__")) (fun Q q => by (repeat lk); exact q) ?_
  refine w_t rfl ?_
  refine wpAny_bind (wpAny_pure ?_)
  refine wpAny_bind (wpAny_holding (slots_read sl f0 f1 f2 f3 f4 f5 st e2 t1 t2 t3 t4 t5 t6 t7 t8 t9 t10 t11 t12 u1 u2 u3 v1 hsl fun x o h₁ D => ?_))
  refine w_new D (by kernel_rfl) rfl fun ns h₂ D => ?_
  refine w_f (by kernel_rfl) ?_
  refine w_eq (r := ()) (by kernel_rfl) ?_
  refine w_f (by kernel_rfl) ?_
  refine w_nsg (D.at 0 _ _ rfl) (r := some (.str "cmp_to_key.<locals>.K" u2)) (by kernel_rfl) ?_
  refine w_nsg (D.at 0 _ _ rfl) (r := some (.str "cmp_to_key.<locals>.K" u2)) (by kernel_rfl) ?_
  refine w_eq (r := some "cmp_to_key.<locals>.K") rfl ?_
  refine wpAny_bind (wpAny_pure ?_)
  refine w_nsg (D.at 0 _ _ rfl) (r := none) (by kernel_rfl) ?_
  refine w_al D rfl fun C h₃ D => ?_
  refine w_t rfl ?_
  refine w_slot D 0 rfl (by decide) #[some (.ref bt)] (by kernel_rfl) rfl fun h₄ D => ?_
  refine w_slot D 0 rfl (by decide) #[some (.ref bt), none, some (.str "K" tnm)] (by kernel_rfl) rfl fun h₅ D => ?_
  refine w_slot D 0 rfl (by decide) #[some (.ref bt), none, some (.str "K" tnm), some (.str "cmp_to_key.<locals>.K" u2)] (by kernel_rfl) rfl fun h₆ D => ?_
  refine w_nsd D 1 rfl (by kernel_rfl) #[ent w.params "__module__" t1 (.str "cpy313.functools" u1), ent w.params "__firstlineno__" t3 (.int 16 u3), ent w.params "__slots__" t4 (.ref sl), ent w.params "__init__" t5 (.ref f0), ent w.params "__lt__" t6 (.ref f1), ent w.params "__gt__" t7 (.ref f2), ent w.params "__eq__" t8 (.ref f3), ent w.params "__le__" t9 (.ref f4), ent w.params "__ge__" t10 (.ref f5), ent w.params "__hash__" t11 .none, ent w.params "__static_attributes__" t12 (.ref st)] (by kernel_rfl) fun h₇ D => ?_
  refine w_nsg (D.at 1 _ _ rfl) (r := none) (by kernel_rfl) ?_
  refine w_read (r := PUnit.unit) (fun Q q => ?_) ?_
  · rw [List.forIn_cons]
    refine wpAny_bind (w_nsg (D.at 1 _ _ rfl) (r := none) (by kernel_rfl) (wpAny_pure ?_))
    show wpAny _ _ (forIn [_] _ _) _ _ _
    rw [List.forIn_cons]
    exact wpAny_bind (w_nsg (D.at 1 _ _ rfl) (r := none) (by kernel_rfl) (wpAny_pure (wpAny_pure q)))
  refine w_nsg (D.at 1 _ _ rfl) (r := none) (by kernel_rfl) ?_
  refine w_nsg (D.at 1 _ _ rfl) (r := none) (by kernel_rfl) ?_
  refine w_eq e_hook ?_
  refine w_eq (r := [.type "object"]) e_lin ?_
  refine wpAny_bind (wpAny_pure ?_)
  refine w_eq (r := false) ?_ ?_
  · show List.anyM _ (List.filter (fun x => x != Value.ref C) [Value.ref C, .type "object"]) = _
    rw [show List.filter (fun x => x != Value.ref C) [Value.ref C, .type "object"] = [.type "object"] by simp]
    kernel_rfl
  refine w_cls D 0 rfl { name := "K", bases := [.type "object"], mro := [.ref C, .type "object"], ns := ns, qualname := "cmp_to_key.<locals>.K", hasDel := false } (by kernel_rfl) (by kernel_rfl) fun h₈ D => ?_
  refine w_eq e_made ?_
  refine w_slot D 0 rfl (by decide) #[some (.ref bt), none, some (.str "K" tnm), some (.str "cmp_to_key.<locals>.K" u2), some (.builtin "object.__new__")] (by kernel_rfl) rfl fun h₉ D => ?_
  refine w_read (r := ()) (fun Q q => ?_) ?_
  · unfold Bind.refreshMaker slotAt
    refine wpAny_bind (wpAny_bind (wpAny_loadPart (D.at 0 _ _ rfl) (wpAny_pure ?_)))
    refine w_f rfl ?_
    refine wpAny_bind (w_tl0 (D.at 0 _ _ rfl) rfl rfl (D.at 1 _ _ rfl) (by kernel_rfl) l_newo ?_)
    exact w_f (by kernel_rfl) (wpAny_pure q)
  refine wpAny_bind ?_
  unfold install
  refine wpAny_bind ?_
  show wpAny _ _ (forIn [("obj" : Str)] _ _) _ _ _
  rw [List.forIn_cons]
  refine wpAny_bind ?_
  refine w_nsg (D.at 1 _ _ rfl) (r := none) (by kernel_rfl) ?_
  refine w_t rfl ?_
  refine w_mkStr (by decide) ?_
  refine w_new D (by kernel_rfl) rfl fun p h₁₀ D => ?_
  refine w_nsv D 2 rfl (by show 11 < 1000; decide) (by kernel_rfl) #[ent w.params "__module__" t1 (.str "cpy313.functools" u1), ent w.params "__firstlineno__" t3 (.int 16 u3), ent w.params "__slots__" t4 (.ref sl), ent w.params "__init__" t5 (.ref f0), ent w.params "__lt__" t6 (.ref f1), ent w.params "__gt__" t7 (.ref f2), ent w.params "__eq__" t8 (.ref f3), ent w.params "__le__" t9 (.ref f4), ent w.params "__ge__" t10 (.ref f5), ent w.params "__hash__" t11 .none, ent w.params "__static_attributes__" t12 (.ref st), ent w.params "obj" (t + 1) (.ref p)] (by kernel_rfl) fun h₁₁ D => ?_
  refine wpAny_pure ?_
  show wpAny _ _ (forIn [] _ _) _ _ _
  rw [List.forIn_nil]
  refine wpAny_pure ?_
  refine w_eq (r := false) (by kernel_rfl) ?_
  refine w_if0 (by show ¬ (1 > sizeLine); rw [sizeLine_eq]; omega) ?_
  refine w_cls0 D 1 rfl { name := "K", bases := [.type "object"], mro := [.ref C, .type "object"], ns := ns, qualname := "cmp_to_key.<locals>.K", hasDel := false, hasDict := false, slotNames := ["obj"] } (by kernel_rfl) (by kernel_rfl) fun h₁₂ D => ?_
  refine w_eq e_gw ?_
  refine w_slot D 1 rfl (by decide) #[some (.ref bt), none, some (.str "K" tnm), some (.str "cmp_to_key.<locals>.K" u2), some (.builtin "object.__new__"), some (.bool false)] (by kernel_rfl) rfl fun h₁₃ D => ?_
  refine w_f rfl ?_
  refine w_f rfl ?_
  refine w_nsg (D.at 2 _ _ rfl) (r := none) (by kernel_rfl) ?_
  refine w_t rfl ?_
  refine w_nss D 2 rfl (by kernel_rfl) #[ent w.params "__module__" t1 (.str "cpy313.functools" u1), ent w.params "__firstlineno__" t3 (.int 16 u3), ent w.params "__slots__" t4 (.ref sl), ent w.params "__init__" t5 (.ref f0), ent w.params "__lt__" t6 (.ref f1), ent w.params "__gt__" t7 (.ref f2), ent w.params "__eq__" t8 (.ref f3), ent w.params "__le__" t9 (.ref f4), ent w.params "__ge__" t10 (.ref f5), ent w.params "__hash__" t11 .none, ent w.params "__static_attributes__" t12 (.ref st), ent w.params "obj" (t + 1) (.ref p), ent w.params "__doc__" (t + 2) .none] (by kernel_rfl) fun h₁₄ D => ?_
  refine w_nsg (D.at 2 _ _ rfl) (r := some (.ref f3)) (by kernel_rfl) ?_
  refine w_t rfl ?_
  refine w_nsg (D.at 2 _ _ rfl) (r := some .none) (by kernel_rfl) ?_
  refine w_f rfl ?_
  refine w_eq (r := PUnit.unit) (by kernel_rfl) ?_
  refine wpAny_bind (wpAny_tryCatch (wpAny_holding ?_))
  refine w_read (fun Q q => by unfold dictEntries; exact wpAny_bind (wpAny_loadPart (D.at 2 _ _ rfl) (wpAny_pure q))) ?_
  refine w_eq (r := false) (by kernel_rfl) ?_
  refine w_f rfl ?_
  refine w_read (fun Q q => by unfold dictEntries; exact wpAny_bind (wpAny_loadPart (D.at 2 _ _ rfl) (wpAny_pure q))) ?_
  refine wpAny_bind ?_
  rw [List.forIn_toArray]
  refine w_each ?_ ?_
  · intro e he Q' q
    have old : ∀ {a : Addr} {o : Obj}, h.get? a = some o → h₁₄.get? a = some o := fun {a o} e => D.keep a o e (by simp [away])
    have fn : ∀ f ∈ [f0, f1, f2, f3, f4, f5], (⟨h₁₄, g, d, t + 1 + 1 + 1, os⟩ : Shared).TypeIs (.ref f) "function" := fun f hm => by
      obtain ⟨o, ho, hc⟩ := hf f hm
      exact ⟨o, old ho, hc⟩
    simp only [List.mem_cons, List.not_mem_nil, or_false] at he
    rcases he with rfl | rfl | rfl | rfl | rfl | rfl | rfl | rfl | rfl | rfl | rfl | rfl | rfl
    · exact w_f (by kernel_rfl) (wpAny_bind (wpAny_specialOf (T := "str") rfl n_str (wpAny_pure q)))
    · exact w_f (by kernel_rfl) (wpAny_bind (wpAny_specialOf (T := "int") rfl n_int (wpAny_pure q)))
    · exact w_f (by kernel_rfl) (wpAny_bind (wpAny_specialOf (T := "list") ⟨_, old hsl, rfl⟩ n_list (wpAny_pure q)))
    · exact w_f (by kernel_rfl) (wpAny_bind (wpAny_specialOf (fn f0 (by simp)) n_fn (wpAny_pure q)))
    · exact w_f (by kernel_rfl) (wpAny_bind (wpAny_specialOf (fn f1 (by simp)) n_fn (wpAny_pure q)))
    · exact w_f (by kernel_rfl) (wpAny_bind (wpAny_specialOf (fn f2 (by simp)) n_fn (wpAny_pure q)))
    · exact w_f (by kernel_rfl) (wpAny_bind (wpAny_specialOf (fn f3 (by simp)) n_fn (wpAny_pure q)))
    · exact w_f (by kernel_rfl) (wpAny_bind (wpAny_specialOf (fn f4 (by simp)) n_fn (wpAny_pure q)))
    · exact w_f (by kernel_rfl) (wpAny_bind (wpAny_specialOf (fn f5 (by simp)) n_fn (wpAny_pure q)))
    · exact w_f (by kernel_rfl) (wpAny_bind (wpAny_specialOf (T := "NoneType") rfl n_none (wpAny_pure q)))
    · obtain ⟨o, ho, hc⟩ := hst
      exact w_f (by kernel_rfl) (wpAny_bind (wpAny_specialOf (T := "tuple") ⟨o, old ho, hc⟩ n_tup (wpAny_pure q)))
    · exact w_f (by kernel_rfl) (wpAny_bind (wpAny_specialOf (T := "member_descriptor") ⟨_, D.at 0 _ _ rfl, rfl⟩ n_mem (wpAny_pure q)))
    · exact w_f (by kernel_rfl) (wpAny_bind (wpAny_specialOf (T := "NoneType") rfl n_none (wpAny_pure q)))
  have old : ∀ {a : Addr} {o : Obj}, h.get? a = some o → h₁₄.get? a = some o := fun {a o} e => D.keep a o e (by simp [away])
  have hC := D.at 1 _ _ rfl
  refine wpAny_bind (super_self hC rfl (looks_sub hC rfl (by show [Value.ref C, Value.type "object"].contains (.ref C) = true; simp)) fun h₁₅ hso k₁₅ => ?_)
  refine wpAny_bind (wpAny_holding (getAttr_super (k₁₅ _ _ hC) rfl (k₁₅ _ _ (old h2)) h2' hso ?_))
  have k₁₆ : ∀ y o, h₁₅.get? y = some o → (h₁₅.push { cls := .type "builtin_function_or_method", data := .fields #[.builtin "object.__init_subclass__", .ref C] }).get? y = some o := fun y o e => Heap.get?_push_of_some _ e
  refine wpAny_bind (call_is (k₁₆ _ _ (k₁₅ _ _ hC)) rfl (Heap.get?_push_at rfl rfl) ?_)
  refine wpAny_pure (wpAny_pure ?_)
  exact hq C ns p _ _ _ (fun b o e => k₁₆ _ _ (k₁₅ _ _ (old e))) (D.nw _ (.tail _ (.head _))).2 (D.nw _ (.tail _ (.tail _ (.head _)))).2 (D.nw _ (.head _)).2 (k₁₆ _ _ (k₁₅ _ _ hC)) (k₁₆ _ _ (k₁₅ _ _ (D.at 2 _ _ rfl))) (k₁₆ _ _ (k₁₅ _ _ (D.at 0 _ _ rfl)))
end Mine
end
section
open PySem PySem.W PySem.W.X PySem.Calls PyProof.Rows Builtin Builtin.Slots
set_option maxRecDepth 100000
namespace Mine
theorem l_tnew : typeLookup (.type "type") "__new__" = pure (some (.builtin "type.__new__")) := by rw [typeLookup_type, builtinLookup_eq_fast]; kernel_rfl
theorem m_type : mroOf (.type "type") = pure [.type "type", .type "object"] := by rw [mroOf_type]; kernel_rfl
theorem made_type : Bind.madeBy (.type "type") = pure (some "type.__new__") := madeBy_type m_type l_tnew (by decide +kernel)
theorem entry_tnew : entryFor table "type.__new__" = some Builtin.«type.__new__» := entryFor_of_tree (by kernel_rfl)
theorem entry_tinit : entryFor table "type.__init__" = some Builtin.«type.__init__» := entryFor_of_tree (by kernel_rfl)
theorem slot_tinit : Slot "type" "__init__" "type.__init__" := .of (owner := "type") (n := "__init__") (by rw [typeLookup_type, builtinLookup_eq_fast]; kernel_rfl) (by decide +kernel) (by decide +kernel) (by decide +kernel)
  (by first | exact .inl (by decide +kernel) | exact .inr (by decide +kernel)) (by rw [isSubtype_type]; kernel_rfl)
theorem args_tinit (a b c d : Value) : argsOk "type.__init__" ⟨[a, b, c, d], []⟩ := by unfold argsOk; kernel_rfl
theorem plain_tnew : plainId "type.__new__" = true := by decide +kernel
set_option maxHeartbeats 0 in
theorem type_call {w : World} {A : Around} {s : Shared} {Q : Value → Shared → Prop} {E : Value → Shared → Prop} {tnm : Tok} {bt nsA : Addr}
    (hnew : ∀ (A' : Around) (Q' : PySem.Fin → Shared → Prop) (E' : Value → Shared → Prop), (∀ C s', s'.TypeIs (.ref C) "type" → Q (.ref C) s' → Q' (.done (.ret (.ref C))) s') → wpAny (MM w) A' (Builtin.«type.__new__» ⟨[.type "type", .str "K" tnm, .ref bt, .ref nsA], []⟩) Q' E' s) :
    wpAny (MM w) A (call (.type "type") [.str "K" tnm, .ref bt, .ref nsA]) Q E s := by
  refine wpAny_call (codeAny_of_tree ?_)
  show wpAny _ _ (callAny (.type "type") _) _ _ _
  refine wpAny_pure ⟨Code.quiet_builtin _ (by decide +kernel), codeAny_builtin F.entry_type_call ?_⟩
  rw [Around.under_plain (weight_type_call_type "type" _ []) rfl]
  unfold Builtin.«type.__call__»
  refine w_t rfl ?_
  refine w_f rfl ?_
  refine w_f rfl ?_
  refine w_f (by kernel_rfl) ?_
  refine w_eq (r := ()) (by kernel_rfl) ?_
  refine w_eq m_type ?_
  refine w_f rfl ?_
  refine w_eq made_type ?_
  refine wpAny_bind (wpAny_pure ?_)
  refine wpAny_bind (wpAny_holding (wpAny_call (codeAny_call_builtin plain_tnew entry_tnew (wpAny_of_eq (a := ()) (by kernel_rfl) (hnew _ _ _ fun C s' hT hQ => ?_)))))
  refine wpAny_bind (wpAny_isInstance hT s_type ?_)
  refine w_f rfl ?_
  have hli := slot_tinit.lookup
  have hbi := slot_tinit.bind (.ref C)
  refine wpAny_bind (wpAny_holding ?_)
  unfold callSpecial?
  refine wpAny_bind (wpAny_specialOf hT hli ?_)
  refine wpAny_holding (wpAny_bind (wpAny_of_eq hbi ?_))
  show wpAny _ _ (call (.builtin "type.__init__") [.ref C, .str "K" tnm, .ref bt, .ref nsA] >>= _) _ _ _
  refine wpAny_bind (wpAny_call_entry slot_tinit hT entry_tinit ?_ (args_tinit _ _ _ _))
  unfold Builtin.«type.__init__»
  refine w_f rfl ?_
  refine w_f rfl ?_
  refine wpAny_pure ⟨_, rfl, wpAny_pure ?_⟩
  refine w_f rfl ?_
  exact wpAny_pure hQ
end Mine
end
section
open PySem PySem.W PySem.W.X PySem.Calls PyProof.Rows Builtin Builtin.Slots
set_option maxRecDepth 100000
namespace Mine
def clsStmt : Stmt := match fnBody 4 with | s :: _ => s | _ => .Pass default
def clsBody : List Stmt := match clsStmt with | .ClassDef _ _ _ b _ _ _ _ _ _ _ => b | _ => []
def clsScope : Scope := match clsStmt with | .ClassDef _ _ _ _ _ _ sc _ _ _ _ => sc | _ => default
def clsPos : Pos := match clsStmt with | .ClassDef _ _ _ _ _ _ _ _ _ _ p => p | _ => default
def kst (i : Nat) : Str × Arguments × List Stmt × Scope × Pos := match clsBody[i + 2]? with
  | some (.FunctionDef n a b _ _ _ sc _ _ p) => (n, a, b, sc, p)
  | _ => ("", ⟨[], [], none, [], [], none, []⟩, [], default, default)
def kname (i : Nat) : Str := (kst i).1
def kargs (i : Nat) : Arguments := (kst i).2.1
def kbody (i : Nat) : List Stmt := (kst i).2.2.1
def kscope (i : Nat) : Scope := (kst i).2.2.2.1
def kpos (i : Nat) : Pos := (kst i).2.2.2.2
def kqual (i : Nat) : Str := "cmp_to_key.<locals>.K." ++ kname i
def kclos (i : Nat) (L : Addr) : List (Str × Addr) := if i = 0 then [] else [("mycmp", L + 1)]
def cenv (ns ck fr L : Addr) : Env := { scope := clsScope, locals := ns, globals := mainGlobals, qual := "cmp_to_key.<locals>.K.", code := .ref ck, frame := some fr, builtins := builtinsNs, cells := [("mycmp", L + 1)] }
theorem codeAmong_other {pos pos' : Pos} {c : Value} (hne : ¬ (pos'.line = pos.line ∧ pos'.col = pos.col)) : ∀ (l : List Value), TriplesOk l → codeAmong pos (l ++ [rawInt pos'.line, rawInt pos'.col, c]) = codeAmong pos l
  | [], _ => by
    have : ¬ (((pos'.line : Int) == (pos.line : Int)) && ((pos'.col : Int) == (pos.col : Int))) = true := by
      simp only [Bool.and_eq_true, beq_iff_eq]
      intro q
      exact hne ⟨by omega, by omega⟩
    show (if (((pos'.line : Int) == (pos.line : Int)) && ((pos'.col : Int) == (pos.col : Int))) = true then some c else codeAmong pos []) = codeAmong pos []
    rw [if_neg this]
  | .int a t :: .int b u :: c' :: rest, h => by
    show (if ((a == (pos.line : Int)) && (b == (pos.col : Int))) = true then some c' else codeAmong pos (rest ++ _)) = (if ((a == (pos.line : Int)) && (b == (pos.col : Int))) = true then some c' else codeAmong pos rest)
    rw [codeAmong_other hne rest h]
def IsFn (h : Heap) (f : Addr) (i : Nat) (L : Addr) : Prop := ∃ doc pm c' ctv, h.get? f = some (fnMade (kname i) (kqual i) (kargs i) (kbody i) (kscope i) (kclos i L) doc pm c' ctv) ∧ h.CodeRec (.ref c') (kqual i)
theorem rec_keep {h h' : Heap} {tk : Addr} {ps : Array Value} (e : h.get? tk = some (tabObj ps)) (ht : TriplesOk ps.toList) (k : ∀ b o, b ≠ tk → h.get? b = some o → h'.get? b = some o) {v : Value} {q : Str} (r : h.CodeRec v q) : h'.CodeRec v q := by
  obtain ⟨c, o, vs, t, e2, ho, hd, hv⟩ := r
  refine ⟨c, o, vs, t, e2, k _ _ (fun z => ?_) ho, hd, hv⟩
  rw [z, e] at ho
  cases ho
  have hd' : ps = vs := Data.fields.inj hd
  subst hd'
  rw [← Array.getElem?_toList] at hv
  match hl : ps.toList, ht with
  | [], _ => rw [hl] at hv; cases hv
  | .int _ _ :: .int _ _ :: _ :: _, _ => rw [hl] at hv; cases hv
theorem IsFn.keeps {h h' : Heap} {f : Addr} {i : Nat} {L : Addr} (x : IsFn h f i L) (k : ∀ b o, h.get? b = some o → h'.get? b = some o) : IsFn h' f i L := by
  obtain ⟨doc, pm, c', ctv, e, r⟩ := x
  exact ⟨doc, pm, c', ctv, k _ _ e, r.keeps k⟩
theorem IsFn.keep {h h' : Heap} {f : Addr} {i : Nat} {L tk : Addr} {ps : Array Value} (x : IsFn h f i L) (et : h.get? tk = some (tabObj ps)) (ht : TriplesOk ps.toList) (k : ∀ b o, b ≠ tk → h.get? b = some o → h'.get? b = some o) : IsFn h' f i L := by
  obtain ⟨doc, pm, c', ctv, e, r⟩ := x
  refine ⟨doc, pm, c', ctv, k _ _ (fun z => ?_) e, rec_keep et ht k r⟩
  rw [z, et] at e; cases e
structure KTab (h : Heap) (ck tk : Addr) : Prop where
  code : CodeHd h ck tk
  tab : ∃ ps, h.get? tk = some (tabObj ps) ∧ TriplesOk ps.toList ∧ ∀ i, i < 6 → (codeAmong (kpos i) ps.toList = none ∨ ∃ c', codeAmong (kpos i) ps.toList = some (.ref c') ∧ h.CodeRec (.ref c') (kqual i))
  glb : ∃ mg, h.Ns mainGlobals mg ∧ h.BuiltinsAt mg tk
  ne : mainGlobals ≠ tk
section
variable {w : World} {A : Around} {s : Shared} {Q : Value → Shared → Prop} {E : Value → Shared → Prop}
set_option maxHeartbeats 1000000 in
theorem mkDef {i : Nat} (hi : i < 6) {ns ck tk fr L : Addr} (x : KTab s.heap ck tk)
    (h : ∀ f h' t', (∀ b o, b ≠ tk → s.heap.get? b = some o → h'.get? b = some o) → KTab h' ck tk → s.heap.get? f = none → IsFn h' f i L → Q (.ref f) { s with heap := h', toks := t' }) :
    wpAny (MM w) A (makeFunction (kname i) (qualnameIn (cenv ns ck fr L) (kname i) (kname i)) (kargs i) (.stmts (kbody i)) (kscope i) (cenv ns ck fr L) [] [] [] (kpos i) (kpos i).line) Q E s := by
  have hcl : closureFor (kscope i) (cenv ns ck fr L) = pure (kclos i L) := by
    match i, hi with
    | 0, _ => rfl
    | 1, _ => rfl
    | 2, _ => rfl
    | 3, _ => rfl
    | 4, _ => rfl
    | 5, _ => rfl
  have hqual : qualnameIn (cenv ns ck fr L) (kname i) (kname i) = kqual i := by
    match i, hi with
    | 0, _ => rfl
    | 1, _ => rfl
    | 2, _ => rfl
    | 3, _ => rfl
    | 4, _ => rfl
    | 5, _ => rfl
  have hline : ∀ i, i < 6 → (kpos i).line = 20 + 3 * i := by
    intro i hi
    match i, hi with
    | 0, _ => rfl
    | 1, _ => rfl
    | 2, _ => rfl
    | 3, _ => rfl
    | 4, _ => rfl
    | 5, _ => rfl
  have hpne : ∀ i j, i < 6 → j < 6 → i ≠ j → ¬ ((kpos i).line = (kpos j).line ∧ (kpos i).col = (kpos j).col) := fun i j hi hj q z => by
    rw [hline i hi, hline j hj] at z; omega
  rw [hqual]
  obtain ⟨ps, e, ht, hf⟩ := x.tab
  obtain ⟨mg, n, hb⟩ := x.glb
  rcases hf i hi with hfi | ⟨c', hfi, hc⟩
  · refine makeFunction_K (c := ck) (P := tk) (clos := kclos i L) hcl rfl n rfl x.code e ht hfi x.ne hb fun c' ctv doc h' tk' hx hge hlt hrec htb => ?_
    have keep : ∀ b o, b ≠ tk → s.heap.get? b = some o → (h'.push (fnMade (kname i) (kqual i) (kargs i) (kbody i) (kscope i) (kclos i L) doc ((mg "__name__").getD .none) c' ctv)).get? b = some o := fun b o hb e => Heap.get?_push_of_some _ (hx b o hb e)
    have krec : ∀ {v : Value} {q : Str}, h'.CodeRec v q → (h'.push (fnMade (kname i) (kqual i) (kargs i) (kbody i) (kscope i) (kclos i L) doc ((mg "__name__").getD .none) c' ctv)).CodeRec v q := fun {v q} r => by
      obtain ⟨c₂, oc, vs, t, e2, hoc, r⟩ := r
      exact ⟨c₂, oc, vs, t, e2, Heap.get?_push_of_some _ hoc, r⟩
    have orec : ∀ {v : Value} {q : Str}, s.heap.CodeRec v q → (h'.push (fnMade (kname i) (kqual i) (kargs i) (kbody i) (kscope i) (kclos i L) doc ((mg "__name__").getD .none) c' ctv)).CodeRec v q := fun {v q} r => rec_keep e ht keep r
    refine h _ _ _ keep ⟨?_, ?_, ?_, x.ne⟩ ?_ ⟨_, _, c', ctv, Heap.get?_push_size _ rfl, krec hrec⟩
    · obtain ⟨o, vs, file, tf, flags, tg, inF, text, tt, e1, r⟩ := x.code
      exact ⟨o, vs, file, tf, flags, tg, inF, text, tt, keep _ _ r.2.2.2.2.2.2.2.2 e1, r⟩
    · have hl : (ps ++ #[rawInt (kpos i).line, rawInt (kpos i).col, Value.ref c']).toList = ps.toList ++ [rawInt (kpos i).line, rawInt (kpos i).col, .ref c'] := by simp
      refine ⟨_, Heap.get?_push_of_some _ htb, ?_, fun j hj => ?_⟩
      · rw [hl]; exact TriplesOk_snoc _ _ _ _ ht
      · rw [hl]
        by_cases q : i = j
        · subst q
          exact .inr ⟨c', codeAmong_snoc _ ht hfi, krec hrec⟩
        · rw [codeAmong_other (hpne i j hi hj q) _ ht]
          exact (hf j hj).imp id fun ⟨c₁, h1, h2⟩ => ⟨c₁, h1, orec h2⟩
    · obtain ⟨bm, o, h1, h2, h3, h4, h5, r⟩ := hb
      obtain ⟨og, es, ep, g1, g2⟩ := n
      exact ⟨mg, ⟨og, es, ep, keep _ _ x.ne g1, g2⟩, bm, o, h1, h2, h3, h4, keep _ _ h4 h5, r⟩
    · cases q : s.heap.get? h'.objs.size with
      | none => rfl
      | some o => exact absurd (Heap.lt_size q) (Nat.not_lt.mpr (Nat.le_of_lt (Nat.lt_of_le_of_lt hge hlt)))
  · refine makeFunction_hit (c := ck) (P := tk) (clos := kclos i L) hcl rfl n rfl x.code e ht hfi hb fun ctv doc h' tk' hk hsz => ?_
    have keep : ∀ b o, s.heap.get? b = some o → (h'.push (fnMade (kname i) (kqual i) (kargs i) (kbody i) (kscope i) (kclos i L) doc ((mg "__name__").getD .none) c' ctv)).get? b = some o := fun b o e => Heap.get?_push_of_some _ (hk b o e)
    have hst := St.of keep
    refine h _ _ _ (fun b o _ e => keep b o e) ⟨x.code.keeps keep, ⟨ps, keep _ _ e, ht, fun j hj => (hf j hj).imp id fun ⟨c₁, h1, h2⟩ => ⟨c₁, h1, hst.rec h2⟩⟩, ⟨mg, hst.ns n, ?_⟩, x.ne⟩ ?_ ⟨_, _, c', ctv, Heap.get?_push_size _ rfl, hst.rec hc⟩
    · obtain ⟨bm, o, h1, h2, h3, h4, h5, r⟩ := hb
      exact ⟨bm, o, h1, h2, h3, h4, keep _ _ h5, r⟩
    · cases q : s.heap.get? h'.objs.size with
      | none => rfl
      | some o => exact absurd (Heap.lt_size q) (Nat.not_lt.mpr hsz)
end
end Mine
end
section
open PySem PySem.W PySem.W.X PySem.Calls PyProof.Rows Builtin Builtin.Slots
set_option maxRecDepth 100000
namespace Mine
abbrev dictO (es : Array DictEntry) (n : Nat) : Obj := ⟨.type "dict", none, .dict es n, #[]⟩
theorem rec_but {h h' : Heap} {ns : Addr} {es : Array DictEntry} {n : Nat} (e : h.get? ns = some (dictO es n)) (k : ∀ b o, b ≠ ns → h.get? b = some o → h'.get? b = some o) {v : Value} {q : Str} (r : h.CodeRec v q) : h'.CodeRec v q := by
  obtain ⟨c, o, vs, t, e2, ho, hd, hv⟩ := r
  refine ⟨c, o, vs, t, e2, k _ _ (fun z => ?_) ho, hd, hv⟩
  rw [z, e] at ho; cases ho; cases hd
theorem IsFn.but {h h' : Heap} {ns f : Addr} {i : Nat} {L : Addr} {es : Array DictEntry} {n : Nat} (x : IsFn h f i L) (e : h.get? ns = some (dictO es n)) (k : ∀ b o, b ≠ ns → h.get? b = some o → h'.get? b = some o) : IsFn h' f i L := by
  obtain ⟨doc, pm, c', ctv, ef, r⟩ := x
  refine ⟨doc, pm, c', ctv, k _ _ (fun z => ?_) ef, rec_but e k r⟩
  rw [z, e] at ef
  have q := congrArg Obj.data (Option.some.inj ef)
  cases q
theorem KTab.but {h h' : Heap} {ns ck tk : Addr} {es : Array DictEntry} {n : Nat} (x : KTab h ck tk) (e : h.get? ns = some (dictO es n)) (hg : ns ≠ mainGlobals) (k : ∀ b o, b ≠ ns → h.get? b = some o → h'.get? b = some o) : KTab h' ck tk := by
  have hst : ∀ b o, h.get? b = some o → (∀ es n, o.data ≠ .dict es n) → h'.get? b = some o := fun b o eb hd => k b o (fun z => by rw [z, e] at eb; cases eb; exact hd _ _ rfl) eb
  refine ⟨?_, ?_, ?_, x.ne⟩
  · obtain ⟨o, vs, file, tf, flags, tg, inF, text, tt, e1, hc, hd, r⟩ := x.code
    exact ⟨o, vs, file, tf, flags, tg, inF, text, tt, hst _ _ e1 (fun _ _ q => by rw [hd] at q; cases q), hc, hd, r⟩
  · obtain ⟨ps, et, ht, hf⟩ := x.tab
    exact ⟨ps, hst _ _ et nofun, ht, fun i hi => (hf i hi).imp id fun ⟨c', h1, h2⟩ => ⟨c', h1, rec_but e k h2⟩⟩
  · obtain ⟨mg, ⟨og, es', ep, g1, g2⟩, bm, o, h1, h2, h3, h4, h5, h6, h7, h8⟩ := x.glb
    exact ⟨mg, ⟨og, es', ep, k _ _ hg.symm g1, g2⟩, bm, o, h1, h2, h3, h4, hst _ _ h5 (fun _ _ q => by rw [h8] at q; cases q), h6, h7, h8⟩
section
variable {w : World} {A : Around} {s : Shared} {E : Value → Shared → Prop}
theorem w_st {Q : Unit → Shared → Prop} {env : Env} {ns : Addr} {name : Str} {v : Value} {es es' : Array DictEntry} {n n' : Nat} (e : storeName env name v = localSet env name v) (hl : env.locals = ns) (ho : s.heap.get? ns = some (dictO es n)) (hr : aRefKeyMayBeTheName name es = false)
    (he : Obj.putName name (if name.cps.isEmpty then 0 else reduceHash (w.params.strHash name.cps)) (.str name s.toks) v (dictO es n) = dictO es' n')
    (x : ∀ h', h'.get? ns = some (dictO es' n') → (∀ b o, b ≠ ns → s.heap.get? b = some o → h'.get? b = some o) → Q () { s with heap := h', toks := s.toks + 1 }) : wpAny (MM w) A (storeName env name v) Q E s := by
  rw [e]
  unfold localSet
  rw [hl]
  refine wpAny_bind (wpAny_load ho (w_t rfl ?_))
  unfold nsSet strHash mkText
  refine wpAny_bind (wpAny_bind (wpAny_askSetting (wpAny_pure (wpAny_bind (wpAny_bind (wpAny_fresh (wpAny_pure (wpAny_bind (wpAny_loadPart ho ?_)))))))))
  dsimp only
  rw [hr]
  refine w_f rfl (wpAny_updatePart ho ?_)
  have hs := Heap.SameBut.update s.heap ns (Obj.putName name (if name.cps.isEmpty then 0 else reduceHash (w.params.strHash name.cps)) (.str name s.toks) v)
  refine x _ ?_ fun b o hb eb => (hs.2 b hb).trans eb
  have := Heap.get?_update_self (Obj.putName name (if name.cps.isEmpty then 0 else reduceHash (w.params.strHash name.cps)) (.str name s.toks) v) ho (by rw [he]; rfl)
  rw [he] at this
  exact this
/-- one def of the body, stored -/
theorem defSt {Q : Flow → Shared → Prop} {i : Nat} (hi : i < 6) {ns ck tk fr L : Addr} {es : Array DictEntry} {n : Nat} (x : KTab s.heap ck tk) (ho : s.heap.get? ns = some (dictO es n)) (hg : ns ≠ mainGlobals) (ht : ns ≠ tk)
    (hr : aRefKeyMayBeTheName (kname i) es = false) (es' : Tok → Addr → Array DictEntry)
    (he : ∀ t f, Obj.putName (kname i) (if (kname i).cps.isEmpty then 0 else reduceHash (w.params.strHash (kname i).cps)) (.str (kname i) t) (.ref f) (dictO es n) = dictO (es' t f) (n + 1))
    (h : ∀ f t h' t', (∀ b o, b ≠ tk → b ≠ ns → s.heap.get? b = some o → h'.get? b = some o) → KTab h' ck tk → s.heap.get? f = none → IsFn h' f i L → h'.get? ns = some (dictO (es' t f) (n + 1)) → (∀ f' j, IsFn s.heap f' j L → IsFn h' f' j L) → Q .next { s with heap := h', toks := t' }) :
    wpAny (MM w) A (exec (.FunctionDef (kname i) (kargs i) (kbody i) [] none [] (kscope i) none (kname i) (kpos i)) (cenv ns ck fr L)) Q E s := by
  have hd0 : (kargs i).defaults = [] ∧ (kargs i).kw_defaults = [] ∧ annTrees (kargs i) none (cenv ns ck fr L) = [] ∧ ∀ v, storeName (cenv ns ck fr L) (kname i) v = localSet (cenv ns ck fr L) (kname i) v := by
    match i, hi with
    | 0, _ => exact ⟨rfl, rfl, rfl, fun _ => rfl⟩
    | 1, _ => exact ⟨rfl, rfl, rfl, fun _ => rfl⟩
    | 2, _ => exact ⟨rfl, rfl, rfl, fun _ => rfl⟩
    | 3, _ => exact ⟨rfl, rfl, rfl, fun _ => rfl⟩
    | 4, _ => exact ⟨rfl, rfl, rfl, fun _ => rfl⟩
    | 5, _ => exact ⟨rfl, rfl, rfl, fun _ => rfl⟩
  obtain ⟨ps, et, htp, _⟩ := x.tab
  refine nestDef_K hd0.1 hd0.2.1 hd0.2.2.1 (mkDef hi x fun f h₁ t₁ k₁ x₁ hf0 hf => ?_)
  have ho₁ := k₁ _ _ ht ho
  refine w_st (s := { s with heap := h₁, toks := t₁ }) (es' := es' t₁ f) (n' := n + 1) (hd0.2.2.2 _) rfl ho₁ hr (he _ _) fun h₂ ho₂ k₂ => ?_
  exact h f t₁ h₂ _ (fun b o b1 b2 e => k₂ _ _ b2 (k₁ _ _ b1 e)) (x₁.but ho₁ hg k₂) hf0 (hf.but ho₁ k₂) ho₂ fun f' j z => (z.keep et htp k₁).but ho₁ k₂
set_option maxHeartbeats 0 in
theorem body_c {Q : Flow → Shared → Prop} {ns ck tk fr L : Addr} {t1 t2 t3 : Tok} {v1 v2 v3 : Value} {n : Nat} (x : KTab s.heap ck tk) (hg : ns ≠ mainGlobals) (ht : ns ≠ tk)
    (ho : s.heap.get? ns = some (dictO #[ent w.params "__module__" t1 v1, ent w.params "__qualname__" t2 v2, ent w.params "__firstlineno__" t3 v3] n))
    (h : ∀ sl f0 f1 f2 f3 f4 f5 u1 v1' t4 t5 t6 t7 t8 t9 t10 t11 h' t' n', (∀ b o, b ≠ tk → b ≠ ns → s.heap.get? b = some o → h'.get? b = some o) → KTab h' ck tk →
      h'.get? sl = some (seqObj "list" #[.str "obj" v1'] 0) → IsFn h' f0 0 L → IsFn h' f1 1 L → IsFn h' f2 2 L → IsFn h' f3 3 L → IsFn h' f4 4 L → IsFn h' f5 5 L →
      h'.get? ns = some (dictO #[ent w.params "__module__" t1 (.str "cpy313.functools" u1), ent w.params "__qualname__" t2 v2, ent w.params "__firstlineno__" t3 v3, ent w.params "__slots__" t4 (.ref sl), ent w.params "__init__" t5 (.ref f0), ent w.params "__lt__" t6 (.ref f1), ent w.params "__gt__" t7 (.ref f2), ent w.params "__eq__" t8 (.ref f3), ent w.params "__le__" t9 (.ref f4), ent w.params "__ge__" t10 (.ref f5), ent w.params "__hash__" t11 .none] n') →
      Q .next { s with heap := h', toks := t' }) :
    wpAny (MM w) A (execs clsBody (cenv ns ck fr L)) Q E s := by
  obtain ⟨p1, k1, p2, p3, p4, k2, p5, p6, p7, p8, k3, p9, p10, hb⟩ : ∃ p1 k1 p2 p3 p4 k2 p5 p6 p7 p8 k3 p9 p10, clsBody = [.Assign [.Name "__module__" p1] (.Constant (.str "cpy313.functools") k1 p2) p3, .Assign [.Name "__slots__" p4] (.List [.Constant (.str "obj") k2 p5] p6) p7,
      .FunctionDef (kname 0) (kargs 0) (kbody 0) [] none [] (kscope 0) none (kname 0) (kpos 0), .FunctionDef (kname 1) (kargs 1) (kbody 1) [] none [] (kscope 1) none (kname 1) (kpos 1), .FunctionDef (kname 2) (kargs 2) (kbody 2) [] none [] (kscope 2) none (kname 2) (kpos 2),
      .FunctionDef (kname 3) (kargs 3) (kbody 3) [] none [] (kscope 3) none (kname 3) (kpos 3), .FunctionDef (kname 4) (kargs 4) (kbody 4) [] none [] (kscope 4) none (kname 4) (kpos 4), .FunctionDef (kname 5) (kargs 5) (kbody 5) [] none [] (kscope 5) none (kname 5) (kpos 5),
      .Assign [.Name "__hash__" p8] (.Constant .none k3 p9) p10] := ⟨_, _, _, _, _, _, _, _, _, _, _, _, _, rfl⟩
  rw [hb]
  obtain ⟨hh, g, d, t, os⟩ := s
  refine wpAny_execs_cons (wpAny_Assign_Name (wpAny_Constant_str ?_))
  refine w_st (es' := #[ent w.params "__module__" t1 (.str "cpy313.functools" t), ent w.params "__qualname__" t2 v2, ent w.params "__firstlineno__" t3 v3]) (n' := n) (by kernel_rfl) rfl ho (by kernel_rfl) (by kernel_rfl) fun h₁ o₁ k₁ => ?_
  have x₁ := x.but ho hg k₁
  refine wpAny_execs_cons (wpAny_Assign_Name (wpAny_List ?_))
  refine arg (wpAny_Constant_str ?_)
  refine argEnd ⟨by show 1 ≤ _; decide, ?_⟩
  have kp : ∀ b o, h₁.get? b = some o → (h₁.push (seqObj "list" #[.str "obj" (t + 1 + 1)] 0)).get? b = some o := fun b o e => Heap.get?_push_of_some _ e
  have x₂ : KTab (h₁.push (seqObj "list" #[.str "obj" (t + 1 + 1)] 0)) ck tk := by
    obtain ⟨mg, n', hb'⟩ := x₁.glb
    obtain ⟨ps, et, htp, hfp⟩ := x₁.tab
    obtain ⟨bm, o, g1, g2, g3, g4, g5, g6⟩ := hb'
    exact ⟨x₁.code.keeps kp, ⟨ps, kp _ _ et, htp, fun i hi => (hfp i hi).imp id fun ⟨c', a1, a2⟩ => ⟨c', a1, a2.keeps kp⟩⟩, ⟨mg, n'.keeps kp, bm, o, g1, g2, g3, g4, kp _ _ g5, g6⟩, x₁.ne⟩
  have hsl := Heap.get?_push_size h₁ (o := seqObj "list" #[.str "obj" (t + 1 + 1)] 0) rfl
  refine w_st (es' := #[ent w.params "__module__" t1 (.str "cpy313.functools" t), ent w.params "__qualname__" t2 v2, ent w.params "__firstlineno__" t3 v3, ent w.params "__slots__" (t + 1 + 1 + 1) (.ref h₁.objs.size)]) (n' := n + 1) (by kernel_rfl) rfl (kp _ _ o₁) (by kernel_rfl) (by kernel_rfl) fun h₃ o₃ k₃ => ?_
  have x₃ := x₂.but (kp _ _ o₁) hg k₃
  have hnsl : h₁.objs.size ≠ ns := Nat.ne_of_gt (Heap.lt_size o₁)
  have hsl₃ := k₃ _ _ hnsl hsl
  have hslt : h₁.objs.size ≠ tk := by
    obtain ⟨ps, et, _⟩ := x₁.tab
    exact Nat.ne_of_gt (Heap.lt_size et)
  refine wpAny_execs_cons (defSt (by decide : 0 < 6) x₃ o₃ hg ht (by kernel_rfl) (fun tt f => #[ent w.params "__module__" t1 (.str "cpy313.functools" t), ent w.params "__qualname__" t2 v2, ent w.params "__firstlineno__" t3 v3, ent w.params "__slots__" (t + 1 + 1 + 1) (.ref h₁.objs.size), ent w.params "__init__" tt (.ref f)]) (fun _ _ => by kernel_rfl) fun f0 t5 h₄ _ k₄ x₄ _ i₄ o₄ j₄ => ?_)
  refine wpAny_execs_cons (defSt (by decide : 1 < 6) x₄ o₄ hg ht (by kernel_rfl) (fun tt f => #[ent w.params "__module__" t1 (.str "cpy313.functools" t), ent w.params "__qualname__" t2 v2, ent w.params "__firstlineno__" t3 v3, ent w.params "__slots__" (t + 1 + 1 + 1) (.ref h₁.objs.size), ent w.params "__init__" t5 (.ref f0), ent w.params "__lt__" tt (.ref f)]) (fun _ _ => by kernel_rfl) fun f1 t6 h₅ _ k₅ x₅ _ i₅ o₅ j₅ => ?_)
  refine wpAny_execs_cons (defSt (by decide : 2 < 6) x₅ o₅ hg ht (by kernel_rfl) (fun tt f => #[ent w.params "__module__" t1 (.str "cpy313.functools" t), ent w.params "__qualname__" t2 v2, ent w.params "__firstlineno__" t3 v3, ent w.params "__slots__" (t + 1 + 1 + 1) (.ref h₁.objs.size), ent w.params "__init__" t5 (.ref f0), ent w.params "__lt__" t6 (.ref f1), ent w.params "__gt__" tt (.ref f)]) (fun _ _ => by kernel_rfl) fun f2 t7 h₆ _ k₆ x₆ _ i₆ o₆ j₆ => ?_)
  refine wpAny_execs_cons (defSt (by decide : 3 < 6) x₆ o₆ hg ht (by kernel_rfl) (fun tt f => #[ent w.params "__module__" t1 (.str "cpy313.functools" t), ent w.params "__qualname__" t2 v2, ent w.params "__firstlineno__" t3 v3, ent w.params "__slots__" (t + 1 + 1 + 1) (.ref h₁.objs.size), ent w.params "__init__" t5 (.ref f0), ent w.params "__lt__" t6 (.ref f1), ent w.params "__gt__" t7 (.ref f2), ent w.params "__eq__" tt (.ref f)]) (fun _ _ => by kernel_rfl) fun f3 t8 h₇ _ k₇ x₇ _ i₇ o₇ j₇ => ?_)
  refine wpAny_execs_cons (defSt (by decide : 4 < 6) x₇ o₇ hg ht (by kernel_rfl) (fun tt f => #[ent w.params "__module__" t1 (.str "cpy313.functools" t), ent w.params "__qualname__" t2 v2, ent w.params "__firstlineno__" t3 v3, ent w.params "__slots__" (t + 1 + 1 + 1) (.ref h₁.objs.size), ent w.params "__init__" t5 (.ref f0), ent w.params "__lt__" t6 (.ref f1), ent w.params "__gt__" t7 (.ref f2), ent w.params "__eq__" t8 (.ref f3), ent w.params "__le__" tt (.ref f)]) (fun _ _ => by kernel_rfl) fun f4 t9 h₈ _ k₈ x₈ _ i₈ o₈ j₈ => ?_)
  refine wpAny_execs_cons (defSt (by decide : 5 < 6) x₈ o₈ hg ht (by kernel_rfl) (fun tt f => #[ent w.params "__module__" t1 (.str "cpy313.functools" t), ent w.params "__qualname__" t2 v2, ent w.params "__firstlineno__" t3 v3, ent w.params "__slots__" (t + 1 + 1 + 1) (.ref h₁.objs.size), ent w.params "__init__" t5 (.ref f0), ent w.params "__lt__" t6 (.ref f1), ent w.params "__gt__" t7 (.ref f2), ent w.params "__eq__" t8 (.ref f3), ent w.params "__le__" t9 (.ref f4), ent w.params "__ge__" tt (.ref f)]) (fun _ _ => by kernel_rfl) fun f5 t10 h₉ t9' k₉ x₉ _ i₉ o₉ j₉ => ?_)
  refine wpAny_execs_cons (wpAny_Assign_Name (wpAny_Constant_none ?_))
  refine w_st (es' := #[ent w.params "__module__" t1 (.str "cpy313.functools" t), ent w.params "__qualname__" t2 v2, ent w.params "__firstlineno__" t3 v3, ent w.params "__slots__" (t + 1 + 1 + 1) (.ref h₁.objs.size), ent w.params "__init__" t5 (.ref f0), ent w.params "__lt__" t6 (.ref f1), ent w.params "__gt__" t7 (.ref f2), ent w.params "__eq__" t8 (.ref f3), ent w.params "__le__" t9 (.ref f4), ent w.params "__ge__" t10 (.ref f5), ent w.params "__hash__" t9' .none]) (n' := n + 1 + 1 + 1 + 1 + 1 + 1 + 1 + 1) (by kernel_rfl) rfl o₉ (by kernel_rfl) (by kernel_rfl) fun h₁₀ o₁₀ k₁₀ => ?_
  have up : ∀ b o, b ≠ tk → b ≠ ns → h₃.get? b = some o → h₁₀.get? b = some o := fun b o b1 b2 e => k₁₀ _ _ b2 (k₉ _ _ b1 b2 (k₈ _ _ b1 b2 (k₇ _ _ b1 b2 (k₆ _ _ b1 b2 (k₅ _ _ b1 b2 (k₄ _ _ b1 b2 e))))))
  refine wpAny_execs_nil ?_
  exact h h₁.objs.size f0 f1 f2 f3 f4 f5 t (t + 1 + 1) (t + 1 + 1 + 1) t5 t6 t7 t8 t9 t10 t9' h₁₀ _ _ (fun b o b1 b2 e => up _ _ b1 b2 (k₃ _ _ b2 (kp _ _ (k₁ _ _ b2 e)))) (x₉.but o₉ hg k₁₀) (up _ _ hslt hnsl hsl₃)
    ((j₉ _ _ (j₈ _ _ (j₇ _ _ (j₆ _ _ (j₅ _ _ i₄))))).but o₉ k₁₀) ((j₉ _ _ (j₈ _ _ (j₇ _ _ (j₆ _ _ i₅)))).but o₉ k₁₀) ((j₉ _ _ (j₈ _ _ (j₇ _ _ i₆))).but o₉ k₁₀) ((j₉ _ _ (j₈ _ _ i₇)).but o₉ k₁₀) ((j₉ _ _ i₈).but o₉ k₁₀) (i₉.but o₉ k₁₀) o₁₀
end
end Mine
end
section
open PySem PySem.W PySem.W.X PySem.Calls PyProof.Rows Builtin Builtin.Slots
set_option maxRecDepth 100000
namespace Mine
theorem t_type : typeOf (.type "type") = pure (.type "type") := by kernel_rfl
theorem l_tga : typeLookup (.type "type") "__getattribute__" = pure (some (.builtin "type.__getattribute__")) := by rw [typeLookup_type, builtinLookup_eq_fast]; kernel_rfl
theorem l_prep : typeLookup (.type "type") "__prepare__" = pure (some (.builtin "type.__prepare__")) := by rw [typeLookup_type, builtinLookup_eq_fast]; kernel_rfl
theorem t_prep : typeOf (.builtin "type.__prepare__") = pure (.type "classmethod_descriptor") := by kernel_rfl
theorem l_cset : typeLookup (.type "classmethod_descriptor") "__set__" = pure none := by rw [typeLookup_type, builtinLookup_eq_fast]; kernel_rfl
theorem l_cdel : typeLookup (.type "classmethod_descriptor") "__delete__" = pure none := by rw [typeLookup_type, builtinLookup_eq_fast]; kernel_rfl
theorem e_opq : opaqueClassAbove (.type "type") = pure none := by kernel_rfl
theorem entry_tga : entryFor table "type.__getattribute__" = some Builtin.«type.__getattribute__» := entryFor_of_tree (by kernel_rfl)
theorem slot_tga : Slot "type" "__getattribute__" "type.__getattribute__" := .of (owner := "type") (n := "__getattribute__") l_tga (by decide +kernel) (by decide +kernel) (by decide +kernel)
  (by first | exact .inl (by decide +kernel) | exact .inr (by decide +kernel)) (by rw [isSubtype_type]; kernel_rfl)
theorem args_tga (a b : Value) : argsOk "type.__getattribute__" ⟨[a, b], []⟩ := by unfold argsOk; kernel_rfl
theorem entry_prep : entryFor table "type.__prepare__" = some Builtin.«type.__prepare__» := entryFor_of_tree (by kernel_rfl)
abbrev bmO (i : String) (v : Value) : Obj := { cls := .type "builtin_function_or_method", data := .fields #[.builtin i, v] }
section
variable {w : World} {A : Around} {E : Value → Shared → Prop} {h : Heap} {g : Array GenState} {d : Drawn} {t : Nat} {os : OsState}
theorem cmd_prep {Q : Value → Shared → Prop} (hq : Q (.ref h.objs.size) ⟨h.push (bmO "type.__prepare__" (.type "type")), g, d, t, os⟩) :
    wpAny (MM w) A (call (.builtin "classmethod_descriptor.__get__") [.builtin "type.__prepare__", .none, .type "type"]) Q E ⟨h, g, d, t, os⟩ := by
  refine wpAny_call_entry slot_cmd t_prep entry_cmd ?_ (args_cmd _ _ _)
  unfold Builtin.«classmethod_descriptor.__get__»
  refine w_eq (r := (Value.builtin "type.__prepare__", none, some (.type "type"))) (by kernel_rfl) ?_
  refine wpAny_bind (wpAny_pure ?_)
  refine w_eq (r := true) rfl ?_
  refine w_f rfl ?_
  refine w_eq (r := true) (by kernel_rfl) ?_
  refine w_f rfl ?_
  unfold newFields
  refine wpAny_bind ?_
  rw [show newObj (.type "builtin_function_or_method") (.fields [Value.builtin "type.__prepare__", .type "type"].toArray) = newObjAsIs (.type "builtin_function_or_method") (.fields #[Value.builtin "type.__prepare__", .type "type"]) by kernel_rfl]
  unfold newObjAsIs
  exact wpAny_bind (wpAny_alloc (wpAny_pure (wpAny_pure ⟨_, rfl, hq⟩)))
theorem ga_prep {tk : Tok} {Q : PySem.Fin → Shared → Prop} (hq : Q (.done (.ret (.ref h.objs.size))) ⟨h.push (bmO "type.__prepare__" (.type "type")), g, d, t, os⟩) :
    wpAny (MM w) A (Builtin.«type.__getattribute__» ⟨[.type "type", .str "__prepare__" tk], []⟩) Q E ⟨h, g, d, t, os⟩ := by
  have hT : (⟨h, g, d, t, os⟩ : Shared).TypeIs (.builtin "type.__prepare__") "classmethod_descriptor" := t_prep
  unfold Builtin.«type.__getattribute__»
  refine w_eq (r := some "__prepare__") rfl ?_
  refine w_eq e_opq ?_
  refine w_eq t_type ?_
  refine w_eq l_prep ?_
  refine wpAny_bind (wpAny_specialOf hT l_is ?_)
  refine wpAny_bind (wpAny_specialOf hT l_cset ?_)
  refine w_f rfl ?_
  refine wpAny_bind (wpAny_specialOf hT l_cdel ?_)
  refine wpAny_bind (wpAny_pure ?_)
  refine w_f rfl ?_
  refine w_eq l_prep ?_
  refine w_f (by kernel_rfl) ?_
  refine w_eq t_prep ?_
  refine w_f (by kernel_rfl) ?_
  refine wpAny_bind (wpAny_specialOf hT l_is ?_)
  refine wpAny_bind (wpAny_holding (cmd_prep ?_))
  exact wpAny_pure hq
theorem get_prep {Q : Option Value → Shared → Prop} (hq : Q (some (.ref h.objs.size)) ⟨h.push (bmO "type.__prepare__" (.type "type")), g, d, t + 1, os⟩) :
    wpAny (MM w) A (getAttr? (.type "type") "__prepare__") Q E ⟨h, g, d, t, os⟩ := by
  have hT : ∀ t', (⟨h, g, d, t', os⟩ : Shared).TypeIs (.type "type") "type" := fun _ => t_type
  unfold getAttr? getAttrBy? getAttrBy
  refine wpAny_bind (wpAny_mkText (wpAny_bind (wpAny_attempt (wpAny_holding (wpAny_bind (wpAny_of_eq t_type (wpAny_bind (wpAny_of_eq l_tga ?_))))))))
  show wpAny _ _ (getAttrByItsOwn (.type "type") (.str "__prepare__" t) (.type "type") (.builtin "type.__getattribute__") false false) _ _ _
  unfold getAttrByItsOwn hookBefore callGetattribute boundAndCalled
  refine wpAny_bind (wpAny_of_eq (show (if onTheHeap (.type "type") then typeLookup (.type "type") "__getattr__" else pure none) = pure none from rfl) ?_)
  refine wpAny_bind (wpAny_attempt (wpAny_holding ?_))
  show wpAny _ _ (bindSpecial (.builtin "type.__getattribute__") (.type "type") >>= _) _ _ _
  refine wpAny_bind (wpAny_of_eq (slot_tga.bind _) ?_)
  refine wpAny_mono (Q := fun v s' => v = .ref h.objs.size ∧ s' = ⟨h.push (bmO "type.__prepare__" (.type "type")), g, d, t + 1, os⟩) (E := fun _ _ => False)
    (wpAny_call_entry slot_tga (hT _) entry_tga (ga_prep ⟨_, rfl, rfl, rfl⟩) (args_tga _ _)) (fun v s' hv => ?_) fun _ _ z => z.elim
  obtain ⟨rfl, rfl⟩ := hv
  exact wpAny_pure (wpAny_pure hq)
theorem call_prep {b : Addr} {nm bt : Value} {Q : Value → Shared → Prop} (hb : h.get? b = some (bmO "type.__prepare__" (.type "type"))) (hck : checkBoundCall "type.__prepare__" ⟨[.type "type", nm, bt], []⟩ = pure ())
    (hq : Q (.ref h.objs.size) ⟨h.push (dictO #[] 0), g, d, t, os⟩) : wpAny (MM w) A (call (.ref b) [nm, bt]) Q E ⟨h, g, d, t, os⟩ := by
  refine wpAny_call (codeAny_of_tree ?_)
  show wpAny _ A.in1 (callAny (.ref b) _) _ _ _
  unfold callAny
  refine wpAny_bind (wpAny_load hb ?_)
  refine w_t (by kernel_rfl) ?_
  refine w_t (by kernel_rfl) ?_
  refine w_eq hck ?_
  refine wpAny_pure ⟨Code.quiet_builtin _ (by decide +kernel), codeAny_builtin entry_prep ?_⟩
  unfold Builtin.«type.__prepare__» newDict
  rw [show newObj (.type "dict") (.dict #[]) = newObjAsIs (.type "dict") (.dict #[]) by kernel_rfl]
  unfold newObjAsIs
  exact wpAny_bind (wpAny_bind (wpAny_alloc (wpAny_pure (wpAny_pure hq))))
end
theorem check_prep (tn : Tok) (bt : Addr) : checkBoundCall "type.__prepare__" ⟨[.type "type", .str "K" tn, .ref bt], []⟩ = pure () := by kernel_rfl
end Mine
end
section
open PySem PySem.W PySem.W.X PySem.Calls PyProof.Rows Builtin Builtin.Slots
set_option maxRecDepth 100000
namespace Mine
section
variable {w : World} {A : Around} {s : Shared} {E : Value → Shared → Prop}
/-- the class's code object, made anew -/
theorem clsCode_new {Q : Value → Shared → Prop} {env : Env} {c P : Addr} {ps : Array Value} {pos : Pos} {fl : Nat} {name qual : Str} {scope : Scope} (hc : env.code = .ref c) (C : CodeHd s.heap c P) (hP : s.heap.get? P = some (tabObj ps)) (ht : TriplesOk ps.toList) (hnf : codeAmong pos ps.toList = none)
    (h : ∀ c' P' h' tk, (∀ b o, b ≠ P → s.heap.get? b = some o → h'.get? b = some o) → s.heap.objs.size ≤ c' → s.heap.objs.size ≤ P' → CodeHd h' c' P' → h'.get? P' = some (tabObj #[]) → h'.CodeRec (.ref c') qual → h'.get? P = some (tabObj (ps ++ #[rawInt pos.line, rawInt pos.col, .ref c'])) → Q (.ref c') { s with heap := h', toks := tk }) :
    wpAny (MM w) A (classCode env pos fl name qual scope) Q E s := by
  obtain ⟨o, vs, file, tf, flags, tg, inF, text, tt, ho, hcl, hd, h11', h11, h2, h7, h9, h10, hne⟩ := C
  unfold classCode codeAt
  rw [hc, if_neg (show ¬ ((Value.ref c == Value.none) = true) from Bool.false_ne_true)]
  refine wpAny_bind (wpAny_fieldsOf ho hd ?_)
  rw [h11]
  refine wpAny_bind (wpAny_fieldsOf hP rfl ?_)
  rw [hnf, h2, h7, h9, h10]
  refine wpAny_bind (wpAny_newCodeX fun c' P' h' tk hk hc' hP' hcode' htab' hrec' => ?_)
  have hPs := Heap.lt_size hP
  have hcP : c' ≠ P := Nat.ne_of_gt (Nat.lt_of_lt_of_le hPs hc')
  have hPP : P' ≠ P := Nat.ne_of_gt (Nat.lt_of_lt_of_le hPs hP')
  have hnew : Obj.mapFields (fun vs => if (codeAmong pos vs.toList).isSome = true then vs else vs ++ #[rawInt pos.line, rawInt pos.col, .ref c']) (tabObj ps) = tabObj (ps ++ #[rawInt pos.line, rawInt pos.col, .ref c']) := by
    show tabObj (if (codeAmong pos ps.toList).isSome = true then ps else ps ++ #[rawInt pos.line, rawInt pos.col, .ref c']) = _
    rw [hnf]; rfl
  refine wpAny_bind (wpAny_updateFieldsOfTheText (hk _ _ hP) rfl ?_)
  have hget := Heap.get?_update_self (h := h') (fun o => Obj.mapFields (fun vs => if (codeAmong pos vs.toList).isSome = true then vs else vs ++ #[rawInt pos.line, rawInt pos.col, .ref c']) o) (hk _ _ hP) (by rw [hnew]; rfl)
  rw [hnew] at hget
  refine wpAny_bind (wpAny_fieldsOf hget rfl ?_)
  have hl : (ps ++ #[rawInt pos.line, rawInt pos.col, Value.ref c']).toList = ps.toList ++ [rawInt pos.line, rawInt pos.col, .ref c'] := by simp
  rw [hl, codeAmong_snoc _ ht hnf]
  have kb := (Heap.SameBut.update h' P (Obj.mapFields (fun vs => if (codeAmong pos vs.toList).isSome = true then vs else vs ++ #[rawInt pos.line, rawInt pos.col, .ref c']))).extBut
  have Cn := CodeHd.of hcode' htab'
  obtain ⟨o₁, vs₁, f₁, tf₁, fl₁, tg₁, in₁, te₁, tt₁, e₁, r₁⟩ := Cn
  refine wpAny_pure (h c' P' _ _ (fun b o hb e => kb b o hb (hk b o e)) hc' hP' ⟨o₁, vs₁, f₁, tf₁, fl₁, tg₁, in₁, te₁, tt₁, kb _ _ hcP e₁, r₁⟩ (kb _ _ hPP htab'.2) ?_ hget)
  obtain ⟨c₂, o₂, vs₂, t₂, e₂, g₂, r₂⟩ := hrec'
  cases e₂
  exact ⟨_, o₂, vs₂, t₂, rfl, kb _ _ hcP g₂, r₂⟩
end
structure KOk (h : Heap) : Prop where
  code : CodeHd h 34 30
  tab : ∃ ps, h.get? 30 = some (tabObj ps) ∧ TriplesOk ps.toList ∧ (codeAmong clsPos ps.toList = none ∨ ∃ ck tk, codeAmong clsPos ps.toList = some (.ref ck) ∧ KTab h ck tk ∧ 110 ≤ tk)
  glb : ∃ mg, h.Ns mainGlobals mg ∧ h.BuiltinsAt mg 30 ∧ (∃ v, mg "__name__" = some v) ∧ mg "object" = none ∧ ∀ tk, 110 ≤ tk → h.BuiltinsAt mg tk
  blt : ∃ mb, h.Ns builtinsNs mb ∧ mb "object" = some (.type "object") ∧ mb "__build_class__" = some (.builtin "__build_class__")
  stat : ∃ o2, h.get? cStatics = some o2 ∧ nsLook "thirdparty.any" o2 = pure none
  lim : h.NoLimit
  big : ∃ o, h.get? 109 = some o
def clsStatics : List Str := match clsStmt with | .ClassDef _ _ _ _ _ _ _ _ _ st _ => st | _ => []
end Mine
end
section
open PySem PySem.W PySem.W.X PySem.Calls PyProof.Rows Builtin Builtin.Slots
set_option maxRecDepth 100000
namespace Mine
theorem l_dgi : typeLookup (.type "dict") "__getitem__" = pure (some (.builtin "dict.__getitem__")) := by rw [typeLookup_type, builtinLookup_eq_fast]; kernel_rfl
def T30 (h : Heap) (ck : Addr) : Prop := ∃ ps, h.get? 30 = some (tabObj ps) ∧ TriplesOk ps.toList ∧ codeAmong clsPos ps.toList = some (.ref ck)
theorem KTab.keeps {h h' : Heap} {ck tk : Addr} (x : KTab h ck tk) (k : ∀ b o, h.get? b = some o → h'.get? b = some o) : KTab h' ck tk := by
  obtain ⟨mg, n, bm, o, g1, g2, g3, g4, g5, g6⟩ := x.glb
  obtain ⟨ps, et, htp, hfp⟩ := x.tab
  exact ⟨x.code.keeps k, ⟨ps, k _ _ et, htp, fun i hi => (hfp i hi).imp id fun ⟨c', a1, a2⟩ => ⟨c', a1, a2.keeps k⟩⟩, ⟨mg, n.keeps k, bm, o, g1, g2, g3, g4, k _ _ g5, g6⟩, x.ne⟩
theorem KOk.keeps {h h' : Heap} (x : KOk h) (k : ∀ b o, h.get? b = some o → h'.get? b = some o) : KOk h' := by
  obtain ⟨ps, et, htp, hc⟩ := x.tab
  obtain ⟨mg, n, ⟨bm, o, g1, g2, g3, g4, g5, g6⟩, nm, ob, gg⟩ := x.glb
  obtain ⟨mb, nb, r⟩ := x.blt
  obtain ⟨o2, e2, r2⟩ := x.stat
  refine ⟨x.code.keeps k, ⟨ps, k _ _ et, htp, hc.imp id fun ⟨ck, tk, a, b, c⟩ => ⟨ck, tk, a, b.keeps k, c⟩⟩, ⟨mg, n.keeps k, ⟨bm, o, g1, g2, g3, g4, k _ _ g5, g6⟩, nm, ob, fun tk q => ?_⟩, ⟨mb, nb.keeps k, r⟩, ⟨o2, k _ _ e2, r2⟩, x.lim.keeps k, x.big.imp fun o e => k _ _ e⟩
  obtain ⟨bm, o, g1, g2, g3, g4, g5, g6⟩ := gg tk q
  exact ⟨bm, o, g1, g2, g3, g4, k _ _ g5, g6⟩
section
variable {w : World} {A : Around} {s : Shared} {E : Value → Shared → Prop}
theorem cls_code {Q : Value → Shared → Prop} {L : Addr} (x : KOk s.heap)
    (h : ∀ ck tk h' t', (∀ b o, b ≠ 30 → b ≠ tk → s.heap.get? b = some o → h'.get? b = some o) → KTab h' ck tk → 110 ≤ tk → (s.heap.get? tk = none ∨ ∃ ps, s.heap.get? tk = some (tabObj ps)) → T30 h' ck → h'.CodeRec (.ref ck) "cmp_to_key.<locals>.K" ∨ True → Q (.ref ck) { s with heap := h', toks := t' }) :
    wpAny (MM w) A (classCode (envK 4 34 35 L) clsPos 16 "K" "cmp_to_key.<locals>.K" clsScope) Q E s := by
  obtain ⟨ps, et, htp, hc⟩ := x.tab
  obtain ⟨mg, n, hb, _, _, gg⟩ := x.glb
  rcases hc with hc | ⟨ck, tk, hc, hk, h110⟩
  · refine clsCode_new rfl x.code et htp hc fun ck tk h' t' k hck htk C ett rec e30 => ?_
    have hsz : 110 ≤ tk := by
      obtain ⟨o, e⟩ := x.big
      exact Nat.le_trans (Heap.lt_size e) htk
    have hl : (ps ++ #[rawInt clsPos.line, rawInt clsPos.col, Value.ref ck]).toList = ps.toList ++ [rawInt clsPos.line, rawInt clsPos.col, .ref ck] := by simp
    obtain ⟨bm, o, g1, g2, g3, g4, g5, g6⟩ := gg tk hsz
    obtain ⟨bm', o', g1', g2', g3', g4', g5', g6'⟩ := hb
    have ebm : bm = bm' := by rw [g1] at g1'; cases g1'; rfl
    obtain ⟨og, es, ep, e1, e2⟩ := n
    refine h ck tk h' t' (fun b o b1 _ e => k b o b1 e) ⟨C, ⟨#[], ett, trivial, fun i hi => .inl rfl⟩, ⟨mg, ⟨og, es, ep, k _ _ (by decide) e1, e2⟩, bm, o, g1, g2, g3, g4, k _ _ (ebm ▸ g4') g5, g6⟩, ?_⟩ hsz ?_ ⟨_, e30, ?_, ?_⟩ (.inr trivial)
    · intro q; rw [← q] at hsz; exact absurd hsz (by decide)
    · left
      cases q : s.heap.get? tk with
      | none => rfl
      | some o => exact absurd (Heap.lt_size q) (Nat.not_lt.mpr htk)
    · rw [hl]; exact TriplesOk_snoc _ _ _ _ htp
    · rw [hl]; exact codeAmong_snoc _ htp hc
  · refine wpAny_codeAt_hit rfl (x.code.code et htp) hc ?_
    obtain ⟨ps', et', _⟩ := hk.tab
    exact h ck tk s.heap s.toks (fun b o _ _ e => e) hk h110 (.inr ⟨ps', et'⟩) ⟨ps, et, htp, hc⟩ (.inr trivial)
end
theorem mapMk {w : World} {A : Around} {E : Value → Shared → Prop} {s : Shared} {Q : List Value → Shared → Prop} (h : Q [.str "obj" s.toks] { s with toks := s.toks + 1 }) : wpAny (MM w) A (List.mapM mkText clsStatics) Q E s := by
  show wpAny _ _ (List.mapM mkText [("obj" : Str)]) _ _ _
  rw [List.mapM_cons, List.mapM_nil]
  exact wpAny_bind (wpAny_mkText (wpAny_bind (wpAny_pure (wpAny_pure h))))
theorem KOk.of {h h' : Heap} {ck tk : Addr} (x : KOk h) (h110 : 110 ≤ tk) (k : ∀ b o, b ≠ 30 → b ≠ tk → h.get? b = some o → h'.get? b = some o) (t30 : T30 h' ck) (y : KTab h' ck tk) : KOk h' := by
  have low : ∀ b o, b ≠ 30 → b < 110 → h.get? b = some o → h'.get? b = some o := fun b o b1 b2 e => k b o b1 (fun q => by rw [q] at b2; exact absurd b2 (Nat.not_lt.mpr h110)) e
  obtain ⟨ps, e30, htp, hc⟩ := t30
  obtain ⟨o, vs, file, tf, flags, tg, inF, text, tt, e1, r⟩ := x.code
  obtain ⟨mg, n, ⟨bm, ob, g1, g2, g3, g4, g5, g6⟩, nm, hob, gg⟩ := x.glb
  obtain ⟨mb, nb, rb⟩ := x.blt
  obtain ⟨o2, e2, r2⟩ := x.stat
  obtain ⟨bm', ob', g1', g2', g3', g4', g5', g6'⟩ := gg tk h110
  have ebm : bm' = bm := by rw [g1] at g1'; cases g1'; rfl
  have eb := k _ _ g4 (by rw [← ebm]; exact g4') g5
  refine ⟨⟨o, vs, file, tf, flags, tg, inF, text, tt, low _ _ (by decide) (by decide) e1, r⟩, ⟨ps, e30, htp, .inr ⟨ck, tk, hc, y, h110⟩⟩, ⟨mg, ns_keep (fun o e => low _ _ (by decide) (by decide) e) n, ⟨bm, ob, g1, g2, g3, g4, eb, g6⟩, nm, hob, fun tk' q => ?_⟩,
    ⟨mb, ns_keep (fun o e => low _ _ (by decide) (by decide) e) nb, rb⟩, ⟨o2, low _ _ (by decide) (by decide) e2, r2⟩, ?_, x.big.imp fun o e => low _ _ (by decide) (by decide) e⟩
  · obtain ⟨bm₁, ob₁, q1, q2, q3, q4, q5, q6⟩ := gg tk' q
    have e₁ : bm₁ = bm := by rw [g1] at q1; cases q1; rfl
    refine ⟨bm₁, ob₁, q1, q2, q3, q4, k _ _ (by rw [e₁]; exact g4) (by rw [e₁, ← ebm]; exact g4') q5, q6⟩
  · obtain ⟨mc, nc, r⟩ := x.lim
    exact ⟨mc, ns_keep (fun o e => low _ _ (by decide) (by decide) e) nc, r⟩
/-- the class, its namespace, its member, as objects; a: addresses (0 namespace, 1 member, 2 .. 7 functions, 8 slots, 9 statics, 10 bases), t: tokens -/
abbrev kCls (a : Nat → Addr) (t : Nat → Tok) (v2 : Value) (C : Addr) : Obj := ⟨.type "type", none, .cls { name := "K", bases := [.type "object"], mro := [.ref C, .type "object"], ns := a 0, qualname := "cmp_to_key.<locals>.K", hasDel := false, hasDict := false, slotNames := ["obj"] }, #[some (.ref (a 10)), none, some (.str "K" (t 0)), some v2, some (.builtin "object.__new__"), some (.bool false)]⟩
abbrev kDict (P : Params) (a : Nat → Addr) (t : Nat → Tok) (v3 : Value) (n : Nat) : Obj := dictO #[ent P "__module__" (t 2) (.str "cpy313.functools" (t 1)), ent P "__firstlineno__" (t 3) v3, ent P "__slots__" (t 4) (.ref (a 8)), ent P "__init__" (t 5) (.ref (a 2)), ent P "__lt__" (t 6) (.ref (a 3)), ent P "__gt__" (t 7) (.ref (a 4)), ent P "__eq__" (t 8) (.ref (a 5)), ent P "__le__" (t 9) (.ref (a 6)), ent P "__ge__" (t 10) (.ref (a 7)), ent P "__hash__" (t 11) .none, ent P "__static_attributes__" (t 12) (.ref (a 9)), ent P "obj" (t 14) (.ref (a 1)), ent P "__doc__" (t 15) .none] n
abbrev kMem (t : Nat → Tok) (C : Addr) : Obj := ⟨.type "member_descriptor", none, .fields #[.str "obj" (t 13), .ref C, .builtin "proto.slot", .builtin "proto.slot#set", rawInt 0], #[]⟩
def IsK (P : Params) (h : Heap) (C L : Addr) : Prop := ∃ (a : Nat → Addr) (t : Nat → Tok) (v2 v3 : Value) (n : Nat), h.get? C = some (kCls a t v2 C) ∧ h.get? (a 0) = some (kDict P a t v3 n) ∧ h.get? (a 1) = some (kMem t C) ∧ IsFn h (a 2) 0 L ∧ IsFn h (a 3) 1 L
theorem IsK.mk {P : Params} {h : Heap} {C L N p f0 f1 f2 f3 f4 f5 sl st bt : Addr} {tnm u1 t1 t3 t4 t5 t6 t7 t8 t9 t10 t11 t12 tp to' td : Tok} {v2 v3 : Value} {n : Nat}
  (eC : h.get? C = some ⟨.type "type", none, .cls { name := "K", bases := [.type "object"], mro := [.ref C, .type "object"], ns := N, qualname := "cmp_to_key.<locals>.K", hasDel := false, hasDict := false, slotNames := ["obj"] }, #[some (.ref bt), none, some (.str "K" tnm), some v2, some (.builtin "object.__new__"), some (.bool false)]⟩)
  (eN : h.get? N = some (dictO #[ent P "__module__" t1 (.str "cpy313.functools" u1), ent P "__firstlineno__" t3 v3, ent P "__slots__" t4 (.ref sl), ent P "__init__" t5 (.ref f0), ent P "__lt__" t6 (.ref f1), ent P "__gt__" t7 (.ref f2), ent P "__eq__" t8 (.ref f3), ent P "__le__" t9 (.ref f4), ent P "__ge__" t10 (.ref f5), ent P "__hash__" t11 .none, ent P "__static_attributes__" t12 (.ref st), ent P "obj" to' (.ref p), ent P "__doc__" td .none] n))
  (ep : h.get? p = some ⟨.type "member_descriptor", none, .fields #[.str "obj" tp, .ref C, .builtin "proto.slot", .builtin "proto.slot#set", rawInt 0], #[]⟩) (i0 : IsFn h f0 0 L) (i1 : IsFn h f1 1 L) : IsK P h C L :=
  ⟨fun i => [N, p, f0, f1, f2, f3, f4, f5, sl, st, bt].getD i 0, fun i => [tnm, u1, t1, t3, t4, t5, t6, t7, t8, t9, t10, t11, t12, tp, to', td].getD i 0, v2, v3, n, eC, eN, ep, i0, i1⟩
theorem w_nsg0 {M : Model} {A : Around} {E : Value → Shared → Prop} {s : Shared} {ns : Addr} {name : Str} {o : Obj} {r : Option Value} {Q : Option Value → Shared → Prop} (ho : s.heap.get? ns = some o) (e : nsLook name o = pure r) (x : Q r s) : wpAny M A (nsGet ns name) Q E s := by
  unfold nsGet
  exact wpAny_bind (wpAny_loadPart ho (wpAny_of_eq e x))
theorem loadNm {w : World} {A : Around} {s : Shared} {E : Value → Shared → Prop} {Q : Value → Shared → Prop} {ns ck fr L : Addr} {es : Array DictEntry} {n : Nat} {mg : Str → Option Value} {v : Value} (ho : s.heap.get? ns = some (dictO es n)) (hl : nsLook "__name__" (dictO es n) = pure none) (hg : s.heap.Ns mainGlobals mg) (hv : mg "__name__" = some v) (q : Q v s) :
    wpAny (MM w) A (loadName (cenv ns ck fr L) "__name__") Q E s := by
  have e : loadName (cenv ns ck fr L) "__name__" = (do
    if let some v ← localGet (cenv ns ck fr L) "__name__" then return v
    loadGlobal (cenv ns ck fr L) "__name__") := by kernel_rfl
  rw [e]
  unfold localGet loadGlobal
  refine wpAny_bind (wpAny_bind (wpAny_load ho (w_t rfl (w_nsg0 ho hl ?_))))
  refine wpAny_bind (wpAny_nsGet hg ?_)
  rw [hv]
  exact wpAny_pure q
theorem type_call' {w : World} {A : Around} {s : Shared} {Q : Value → Shared → Prop} {E : Value → Shared → Prop} {tnm : Tok} {bt nsA : Addr} {vs : List Value} {kw : List (Str × Value)} (hv : vs = [.str "K" tnm, .ref bt, .ref nsA]) (hk : kw = [])
    (hnew : ∀ (A' : Around) (Q' : PySem.Fin → Shared → Prop) (E' : Value → Shared → Prop), (∀ C s', s'.TypeIs (.ref C) "type" → Q (.ref C) s' → Q' (.done (.ret (.ref C))) s') → wpAny (MM w) A' (Builtin.«type.__new__» ⟨[.type "type", .str "K" tnm, .ref bt, .ref nsA], []⟩) Q' E' s) :
    wpAny (MM w) A (call (.type "type") vs kw) Q E s := by
  subst hv hk
  exact type_call hnew
set_option maxHeartbeats 0 in
theorem build_c {w : World} {A : Around} {E : Value → Shared → Prop} {h : Heap} {g : Array GenState} {d : Drawn} {t : Nat} {os : OsState} {Q : Value → Shared → Prop} {k L : Addr} (hA : Ok A k) (x : KOk h)
    (hq : ∀ C tk h' t', 110 ≤ tk → (∀ o, h.get? tk = some o → ∃ ps, o = tabObj ps) → (∀ b o, b ≠ 30 → b ≠ tk → h.get? b = some o → h'.get? b = some o) → KOk h' → IsK w.params h' C L → h.get? C = none → Q (.ref C) ⟨h', g, d, t', os⟩) :
    wpAny (MM w) A (buildClass "K" "cmp_to_key.<locals>.K" [.type "object"] [] clsBody clsScope clsStatics 16 (envK 4 34 35 L) clsPos none) Q E ⟨h, g, d, t, os⟩ := by
  unfold buildClass
  refine wpAny_bind (wpAny_newTuple ?_ (by show 1 ≤ sizeLine; rw [sizeLine_eq]; omega))
  refine w_eq (r := ([.type "object"], false)) (by kernel_rfl) ?_
  refine w_eq t_obj ?_
  refine w_eq (r := true) rfl ?_
  refine w_t rfl ?_
  refine w_eq (r := .type "type") (by kernel_rfl) ?_
  refine wpAny_bind (wpAny_mkText ?_)
  refine w_f rfl ?_
  refine wpAny_bind (wpAny_pure ?_)
  refine wpAny_holding ?_
  refine wpAny_bind (get_prep ?_)
  refine wpAny_bind (call_prep (Heap.get?_push_at rfl rfl) (check_prep _ _) ?_)
  have k₃ : ∀ b o, h.get? b = some o → (((h.push { cls := .type "tuple", data := .seq [Value.type "object"].toArray }).push (bmO "type.__prepare__" (.type "type"))).push (dictO #[] 0)).get? b = some o := fun b o e => Heap.get?_push_of_some _ (Heap.get?_push_of_some _ (Heap.get?_push_of_some _ e))
  have hbt : (((h.push { cls := .type "tuple", data := .seq [Value.type "object"].toArray }).push (bmO "type.__prepare__" (.type "type"))).push (dictO #[] 0)).get? h.objs.size = some (seqObj "tuple" #[.type "object"] 0) := Heap.get?_push_of_some _ (Heap.get?_push_of_some _ (Heap.get?_push_size _ rfl))
  have hns := Heap.get?_push_size ((h.push { cls := .type "tuple", data := .seq [Value.type "object"].toArray }).push (bmO "type.__prepare__" (.type "type"))) (o := dictO #[] 0) rfl
  have hnl : h.objs.size < ((h.push { cls := .type "tuple", data := .seq [Value.type "object"].toArray }).push (bmO "type.__prepare__" (.type "type"))).objs.size := by rw [Heap.size_push, Heap.size_push]; omega
  generalize ((h.push { cls := .type "tuple", data := .seq [Value.type "object"].toArray }).push (bmO "type.__prepare__" (.type "type"))).objs.size = ns at hns hnl ⊢
  generalize (((h.push { cls := .type "tuple", data := .seq [Value.type "object"].toArray }).push (bmO "type.__prepare__" (.type "type"))).push (dictO #[] 0)) = h₃ at k₃ hbt hns ⊢
  have hbig : 110 ≤ h.objs.size := by obtain ⟨o, e⟩ := x.big; exact Heap.lt_size e
  have hnew : h.get? ns = none := by
    cases q : h.get? ns with
    | none => rfl
    | some o => exact absurd (Heap.lt_size q) (Nat.not_lt.mpr (Nat.le_of_lt hnl))
  have hb30 : h.objs.size ≠ 30 := fun q => by have q' : (h.objs.size : Nat) = 30 := q; omega
  have hs2 : cStatics ≠ ns := fun q => by have q' : (2 : Nat) = ns := q; omega
  have hmod : (ns == sysModules) = false := by show decide (ns = 1) = false; exact decide_eq_false fun q => by have q' : (ns : Nat) = 1 := q; omega
  refine w_read (r := ()) (fun Q q => ?_) ?_
  · unfold notTheModulesDict
    exact w_f hmod (wpAny_pure q)
  refine wpAny_bind (wpAny_specialOf (T := "dict") ⟨_, hns, rfl⟩ l_dgi ?_)
  refine w_f rfl ?_
  refine wpAny_holding ?_
  refine w_f (by kernel_rfl) ?_
  refine wpAny_bind (wpAny_pure ?_)
  refine w_f (by kernel_rfl) ?_
  refine wpAny_bind (wpAny_pure ?_)
  have x₃ := x.keeps k₃
  obtain ⟨o2, e2, r2⟩ := x₃.stat
  refine wpAny_bind (cls_code x₃ fun ck tk h₄ t₄ k₄ y₄ h110 old4 t30 _ => ?_)
  have k₄' : ∀ b o, b ≠ 30 → o.cls ≠ .none → h₃.get? b = some o → h₄.get? b = some o := fun b o b1 hc e => k₄ b o b1 (fun q => by
    rcases old4 with z | ⟨ps, z⟩
    · rw [q] at e; have z' : h₃.get? tk = none := z; rw [z'] at e; cases e
    · rw [q] at e; have z' : h₃.get? tk = some (tabObj ps) := z; rw [z'] at e; cases e; exact hc rfl) e
  obtain ⟨mg, n3, ⟨bm, ob, b1, b2, b3, b4, b5, b6, b7, b8⟩, ⟨nmv, hnm⟩, hno, _⟩ := x₃.glb
  have n4 : h₄.Ns mainGlobals mg := ns_keep (fun o e => k₄ _ _ (by decide) (fun q => absurd h110 (by rw [← q]; decide)) e) n3
  refine wpAny_bind (wpAny_builtinsFor n4 b1 b2 (k₄' _ _ b4 (by rw [b6]; nofun) b5) b6 b7 b8 ?_)
  unfold newBodyFrame
  refine wpAny_bind (wpAny_bind (wpAny_nsGet n4 (wpAny_alloc ?_)))
  refine w_eq (r := [("mycmp", L + 1)]) rfl ?_
  refine wpAny_holding ?_
  have hn30 : ns ≠ 30 := fun q => by have q' : (ns : Nat) = 30 := q; omega
  have hn3 : ns ≠ mainGlobals := fun q => by have q' : (ns : Nat) = 3 := q; omega
  have hnt : ns ≠ tk := fun q => by
    rcases old4 with z | ⟨ps, z⟩
    · have z' : h₃.get? tk = none := z
      rw [← q, hns] at z'; cases z'
    · have z' : h₃.get? tk = some (tabObj ps) := z
      rw [← q, hns] at z'
      have := congrArg Obj.data (Option.some.inj z')
      cases this
  have hns₄ : h₄.get? ns = some (dictO #[] 0) := k₄ _ _ hn30 hnt hns
  refine wpAny_bind (wpAny_enterFrame ?_ hA.room ?_)
  · obtain ⟨mc, nc, r⟩ := x₃.lim
    exact ⟨mc, ns_keep (fun o e => Heap.get?_push_of_some _ (k₄ _ _ (by decide) (fun q => absurd h110 (by rw [← q]; decide)) e)) nc, r⟩
  have k₅ : ∀ b o, h₄.get? b = some o → (h₄.push ({ cls := .type "frame", slots := #[some (.ref ck), some (.ref mainGlobals), some (.ref ns), none, some ((mg "__name__").getD .none), none, some (.ref builtinsNs)] } : Obj)).get? b = some o := fun b o e => Heap.get?_push_of_some _ e
  refine wpAny_bind (wpAny_onRaise ?_)
  refine wpAny_bind (loadNm (k₅ _ _ hns₄) (by kernel_rfl) (n4.keeps k₅) hnm ?_)
  refine wpAny_bind (w_st (env := cenv ns ck h₄.objs.size L) (es' := #[ent w.params "__module__" t₄ nmv]) (n' := 1) (by kernel_rfl) rfl (k₅ _ _ hns₄) (by kernel_rfl) (by kernel_rfl) fun h₆ o₆ k₆ => ?_)
  refine wpAny_bind (wpAny_mkText ?_)
  refine wpAny_bind (w_st (env := cenv ns ck h₄.objs.size L) (es' := #[ent w.params "__module__" t₄ nmv, ent w.params "__qualname__" (t₄ + 1 + 1) (.str "cmp_to_key.<locals>.K" (t₄ + 1))]) (n' := 2) (by kernel_rfl) rfl o₆ (by kernel_rfl) (by kernel_rfl) fun h₇ o₇ k₇ => ?_)
  refine wpAny_bind (wpAny_mkInt ?_)
  refine wpAny_bind (w_st (env := cenv ns ck h₄.objs.size L) (es' := #[ent w.params "__module__" t₄ nmv, ent w.params "__qualname__" (t₄ + 1 + 1) (.str "cmp_to_key.<locals>.K" (t₄ + 1)), ent w.params "__firstlineno__" (t₄ + 1 + 1 + 1 + 1) (.int 16 (t₄ + 1 + 1 + 1))]) (n' := 3) (by kernel_rfl) rfl o₇ (by kernel_rfl) (by kernel_rfl) fun h₈ o₈ k₈ => ?_)
  refine wpAny_pure ?_
  have y₈ := (((y₄.keeps k₅).but (k₅ _ _ hns₄) hn3 k₆).but o₆ hn3 k₇).but o₇ hn3 k₈
  refine wpAny_bind (wpAny_run (codeAny_of_tree ?_))
  show wpAny _ _ (do
    blockStart clsBody (cenv ns ck h₄.objs.size L)
    return PySem.Fin.done (← (execs clsBody (cenv ns ck h₄.objs.size L)).onRaise (leaving (cenv ns ck h₄.objs.size L)))) _ _ _
  refine w_eq (r := ()) (by kernel_rfl) ?_
  refine wpAny_bind (wpAny_onRaise (body_c y₈ hn3 hnt o₈ fun sl f0 f1 f2 f3 f4 f5 u1 v1' t4 t5 t6 t7 t8 t9 t10 t11 h₉ t₉ n₉ k₉ y₉ hsl i0 i1 i2 i3 i4 i5 o₉ => ?_))
  refine wpAny_pure ?_
  refine wpAny_bind (wpAny_onRaise ?_)
  refine wpAny_bind (mapMk ?_)
  refine wpAny_bind (wpAny_newTextTuple ?_)
  have k₁₀ : ∀ b o, h₉.get? b = some o → (h₉.push { cls := .type "tuple", data := .seq [Value.str "obj" t₉].toArray }).get? b = some o := fun b o e => Heap.get?_push_of_some _ e
  refine wpAny_bind (w_st (env := cenv ns ck h₄.objs.size L) (es' := #[ent w.params "__module__" t₄ (.str "cpy313.functools" u1), ent w.params "__qualname__" (t₄ + 1 + 1) (.str "cmp_to_key.<locals>.K" (t₄ + 1)), ent w.params "__firstlineno__" (t₄ + 1 + 1 + 1 + 1) (.int 16 (t₄ + 1 + 1 + 1)), ent w.params "__slots__" t4 (.ref sl), ent w.params "__init__" t5 (.ref f0), ent w.params "__lt__" t6 (.ref f1), ent w.params "__gt__" t7 (.ref f2), ent w.params "__eq__" t8 (.ref f3), ent w.params "__le__" t9 (.ref f4), ent w.params "__ge__" t10 (.ref f5), ent w.params "__hash__" t11 .none, ent w.params "__static_attributes__" (t₉ + 1) (.ref h₉.objs.size)]) (n' := n₉ + 1) (by kernel_rfl) rfl (k₁₀ _ _ o₉) (by kernel_rfl) (by kernel_rfl) fun h₁₁ o₁₁ k₁₁ => ?_)
  refine wpAny_pure ?_
  refine w_f rfl ?_
  have old : ∀ o, h.get? tk = some o → ∃ ps, o = tabObj ps := fun o e => by
    have e' := k₃ _ _ e
    rcases old4 with z | ⟨ps, z⟩
    · have z' : h₃.get? tk = none := z
      rw [z'] at e'; cases e'
    · have z' : h₃.get? tk = some (tabObj ps) := z
      rw [z'] at e'; exact ⟨ps, (Option.some.inj e').symm⟩
  have kb : ∀ b o, b ≠ 30 → b ≠ tk → b ≠ ns → h₃.get? b = some o → h₁₁.get? b = some o := fun b o b1 b2 b3 e => k₁₁ _ _ b3 (k₁₀ _ _ (k₉ _ _ b2 b3 (k₈ _ _ b3 (k₇ _ _ b3 (k₆ _ _ b3 (k₅ _ _ (k₄ _ _ b1 b2 e)))))))
  have hbtk : h.objs.size ≠ tk := fun q => by
    rcases old4 with z | ⟨ps, z⟩
    · have z' : h₃.get? tk = none := z
      rw [← q, hbt] at z'; cases z'
    · have z' : h₃.get? tk = some (tabObj ps) := z
      rw [← q, hbt] at z'
      have := congrArg Obj.cls (Option.some.inj z')
      cases this
  have hbt₁₁ := kb _ _ hb30 hbtk (Nat.ne_of_lt hnl) hbt
  have hsln : sl ≠ ns := fun q => by
    rw [q, o₉] at hsl
    have := congrArg Obj.data (Option.some.inj hsl)
    cases this
  have hsl₁₁ := k₁₁ _ _ hsln (k₁₀ _ _ hsl)
  have fn : ∀ {f i}, IsFn h₉ f i L → IsFn h₁₁ f i L := fun {f i} z => (z.keeps k₁₀).but (k₁₀ _ _ o₉) k₁₁
  have fo : ∀ {f i}, IsFn h₉ f i L → ∃ o, h₁₁.get? f = some o ∧ o.cls = .type "function" := fun {f i} z => by
    obtain ⟨_, _, _, _, e, _⟩ := fn z
    exact ⟨_, e, rfl⟩
  have hst : ∃ o, h₁₁.get? h₉.objs.size = some o ∧ o.cls = .type "tuple" := ⟨_, k₁₁ _ _ (Nat.ne_of_gt (Heap.lt_size o₉)) (Heap.get?_push_size _ rfl), rfl⟩
  have n2 : cStatics ≠ 30 := by decide
  have ntk : ∀ b : Addr, b < 110 → b ≠ tk := fun b hb q => absurd (Nat.lt_of_lt_of_le hb h110) (by rw [q]; exact Nat.lt_irrefl _)
  have e2' : h₁₁.get? cStatics = some o2 := kb cStatics o2 n2 (ntk cStatics (by decide)) hs2 e2
  have y₁₁ := (y₉.keeps k₁₀).but (k₁₀ _ _ o₉) hn3 k₁₁
  have t₁₁ : T30 h₁₁ ck := by
    obtain ⟨ps, e30, r⟩ := t30
    have n30 : (30 : Addr) ≠ tk := ntk 30 (by decide)
    exact ⟨ps, k₁₁ _ _ hn30.symm (k₁₀ _ _ (k₉ _ _ n30 hn30.symm (k₈ _ _ hn30.symm (k₇ _ _ hn30.symm (k₆ _ _ hn30.symm (k₅ _ _ e30)))))), r⟩
  refine wpAny_bind (type_call' (tnm := t) (bt := h.objs.size) (nsA := ns) rfl rfl fun A' Q' E' hQ' => ?_)
  refine type_new t h.objs.size ns sl f0 f1 f2 f3 f4 f5 h₉.objs.size 0 0 (n₉ + 1) 0 t₄ (t₄ + 1 + 1) (t₄ + 1 + 1 + 1 + 1) t4 t5 t6 t7 t8 t9 t10 t11 (t₉ + 1) u1 (t₄ + 1) (t₄ + 1 + 1 + 1) v1' hbt₁₁ hsl₁₁ o₁₁ hmod (fun f hm => ?_) hst e2' r2 fun C N p n' h₁₂ t₁₂ k₁₂ c0 _ _ eC eN ep => ?_
  · simp only [List.mem_cons, List.not_mem_nil, or_false] at hm
    rcases hm with rfl | rfl | rfl | rfl | rfl | rfl
    · exact fo i0
    · exact fo i1
    · exact fo i2
    · exact fo i3
    · exact fo i4
    · exact fo i5
  refine hQ' C _ ⟨_, eC, rfl⟩ ?_
  refine wpAny_pure ?_
  have kf : ∀ b o, b ≠ 30 → b ≠ tk → h.get? b = some o → h₁₂.get? b = some o := fun b o b1 b2 e => k₁₂ _ _ (kb _ _ b1 b2 (fun q => by rw [q, hnew] at e; cases e) (k₃ _ _ e))
  refine hq C tk h₁₂ t₁₂ h110 old kf (x.of h110 kf ?_ (y₁₁.keeps k₁₂)) (IsK.mk eC eN ep ((fn i0).keeps k₁₂) ((fn i1).keeps k₁₂)) ?_
  · obtain ⟨ps, e30, r⟩ := t₁₁
    exact ⟨ps, k₁₂ _ _ e30, r⟩
  · cases q : h.get? C with
    | none => rfl
    | some o =>
      exfalso
      by_cases b1 : C = 30
      · obtain ⟨ps, e30, _⟩ := t₁₁
        rw [b1, e30] at c0; cases c0
      · by_cases b2 : C = tk
        · obtain ⟨ps, et, _⟩ := y₁₁.tab
          rw [b2, et] at c0; cases c0
        · rw [kb _ _ b1 b2 (fun z => by rw [z, hnew] at q; cases q) (k₃ _ _ q)] at c0; cases c0
end Mine
end
section
open PySem PySem.W PySem.W.X PySem.Calls PyProof.Rows Builtin Builtin.Slots
set_option maxRecDepth 100000
namespace Mine
theorem evalArgs_F {M : Model} {A : Around} {E : Value → Shared → Prop} {s : Shared} {f : Value} {l : List (Bool × Sem Value)} {Q : Args → Shared → Prop}
    (h : wpAny M A (spliced l) (fun vs s' => Q ⟨vs, []⟩ s') E s) : wpAny M A (evalArgs f false l []) Q E s := by
  unfold evalArgs
  show wpAny M A (spliced l >>= _) Q E s
  refine wpAny_bind (wpAny_mono h (fun vs s' h' => ?_) fun _ _ x => x)
  refine wpAny_holding ?_
  exact wpAny_bind (wpAny_pure (wpAny_bind (wpAny_pure (wpAny_pure h'))))
set_option maxHeartbeats 0 in
theorem cls_exec {w : World} {A : Around} {E : Value → Shared → Prop} {s : Shared} {Q : Flow → Shared → Prop} {k L : Addr} (hA : Ok A k) (x : KOk s.heap)
    (hq : ∀ C tk h' t', 110 ≤ tk → (∀ o, s.heap.get? tk = some o → ∃ ps, o = tabObj ps) → (∀ b o, b ≠ 30 → b ≠ tk → s.heap.get? b = some o → h'.get? b = some o) → KOk h' → IsK w.params h' C L → s.heap.get? C = none → wpAny (MM w) A (storeName (envK 4 34 35 L) "K" (.ref C)) (fun _ s'' => Q .next s'') E { s with heap := h', toks := t' }) :
    wpAny (MM w) A (exec clsStmt (envK 4 34 35 L)) Q E s := by
  obtain ⟨p, x1, hb⟩ : ∃ p x1, clsStmt = .ClassDef "K" [.Name "object" p] [] clsBody [] [] clsScope x1 "K" clsStatics clsPos := ⟨_, _, rfl⟩
  rw [hb, arm_exec_ClassDef]
  obtain ⟨mb, nb, hob, hbc⟩ := x.blt
  obtain ⟨mg, ng, _, _, hno, _⟩ := x.glb
  refine w_eq (r := []) rfl ?_
  refine wpAny_bind (wpAny_standAt ?_)
  refine w_read (r := ()) (fun Q q => ?_) ?_
  · unfold buildClassGuard
    refine wpAny_bind (wpAny_nsGet nb ?_)
    rw [hbc]
    exact wpAny_pure q
  refine wpAny_bind (wpAny_holding ?_)
  refine wpAny_bind (evalArgs_F ?_)
  refine arg (Name_function_global rfl rfl (loadGlobal_builtin ng hno nb hob ?_))
  refine argEnd ?_
  refine wpAny_bind (wpAny_standAt (wpAny_holding ?_))
  obtain ⟨h, g, d, t, os⟩ := s
  refine build_c hA x fun C tk h' t' h110 old kf x' iK c0 => ?_
  refine w_eq (r := .ref C) rfl ?_
  refine wpAny_bind (wpAny_standAt ?_)
  exact wpAny_bind (wpAny_bindName (wpAny_mono (hq C tk h' t' h110 old kf x' iK c0) (fun _ _ z => wpAny_pure z) fun _ _ z => z))
end Mine
end
section
open PySem PySem.W PySem.W.X PySem.Calls PyProof.Rows Builtin Builtin.Slots
set_option maxRecDepth 100000
namespace Mine
/-- all but code tables is kept -/
def KT (h h' : Heap) : Prop := ∀ b o, (∀ ps, o ≠ tabObj ps) → h.get? b = some o → h'.get? b = some o
/-- below the law's own frame all but the class's table is kept -/
def Lo (h h' : Heap) : Prop := ∀ b o, b < 110 → b ≠ 30 → h.get? b = some o → h'.get? b = some o
theorem rec_st {h h' : Heap} (hst : ∀ b o, (∀ es n, o.data ≠ .dict es n) → h.get? b = some o → h'.get? b = some o) {v : Value} {q : Str} (r : h.CodeRec v q) : h'.CodeRec v q := by
  obtain ⟨c, o, vs, t, e2, ho, hd, hv⟩ := r
  exact ⟨c, o, vs, t, e2, hst _ _ (fun _ _ z => by rw [hd] at z; cases z) ho, hd, hv⟩
theorem IsFn.st {h h' : Heap} (hst : ∀ b o, (∀ es n, o.data ≠ .dict es n) → h.get? b = some o → h'.get? b = some o) {f : Addr} {i : Nat} {L : Addr} (x : IsFn h f i L) : IsFn h' f i L := by
  obtain ⟨doc, pm, c', ctv, ef, r⟩ := x
  exact ⟨doc, pm, c', ctv, hst _ _ nofun ef, rec_st hst r⟩
theorem KTab.st {h h' : Heap} {ck tk : Addr} (x : KTab h ck tk) (hst : ∀ b o, (∀ es n, o.data ≠ .dict es n) → h.get? b = some o → h'.get? b = some o) (hg : ∀ o, h.get? mainGlobals = some o → h'.get? mainGlobals = some o) : KTab h' ck tk := by
  refine ⟨?_, ?_, ?_, x.ne⟩
  · obtain ⟨o, vs, file, tf, flags, tg, inF, text, tt, e1, hc, hd, r⟩ := x.code
    exact ⟨o, vs, file, tf, flags, tg, inF, text, tt, hst _ _ (fun _ _ q => by rw [hd] at q; cases q) e1, hc, hd, r⟩
  · obtain ⟨ps, et, ht, hf⟩ := x.tab
    exact ⟨ps, hst _ _ nofun et, ht, fun i hi => (hf i hi).imp id fun ⟨c', h1, h2⟩ => ⟨c', h1, rec_st hst h2⟩⟩
  · obtain ⟨mg, ⟨og, es', ep, g1, g2⟩, bm, o, h1, h2, h3, h4, h5, h6, h7, h8⟩ := x.glb
    exact ⟨mg, ⟨og, es', ep, hg _ g1, g2⟩, bm, o, h1, h2, h3, h4, hst _ _ (fun _ _ q => by rw [h8] at q; cases q) h5, h6, h7, h8⟩
theorem KOk.st {h h' : Heap} (x : KOk h) (hst : ∀ b o, (∀ es n, o.data ≠ .dict es n) → h.get? b = some o → h'.get? b = some o) (low : ∀ b o, b < 110 → h.get? b = some o → h'.get? b = some o) : KOk h' := by
  obtain ⟨ps, et, htp, hc⟩ := x.tab
  obtain ⟨mg, n, ⟨bm, ob, g1, g2, g3, g4, g5, g6, g7, g8⟩, nm, hob, gg⟩ := x.glb
  obtain ⟨mb, nb, rb⟩ := x.blt
  obtain ⟨o2, e2, r2⟩ := x.stat
  obtain ⟨o, vs, file, tf, flags, tg, inF, text, tt, e1, hcc, hd, r⟩ := x.code
  refine ⟨⟨o, vs, file, tf, flags, tg, inF, text, tt, low _ _ (by decide) e1, hcc, hd, r⟩, ⟨ps, low _ _ (by decide) et, htp, hc.imp id fun ⟨ck, tk, a, b, c⟩ => ⟨ck, tk, a, b.st hst fun o e => low _ _ (by decide) e, c⟩⟩, ⟨mg, ns_keep (fun o e => low _ _ (by decide) e) n, ⟨bm, ob, g1, g2, g3, g4, hst _ _ (fun _ _ q => by rw [g8] at q; cases q) g5, g6, g7, g8⟩, nm, hob, fun tk' q => ?_⟩,
    ⟨mb, ns_keep (fun o e => low _ _ (by decide) e) nb, rb⟩, ⟨o2, low _ _ (by decide) e2, r2⟩, ?_, x.big.imp fun o e => low _ _ (by decide) e⟩
  · obtain ⟨bm₁, ob₁, q1, q2, q3, q4, q5, q6, q7, q8⟩ := gg tk' q
    exact ⟨bm₁, ob₁, q1, q2, q3, q4, hst _ _ (fun _ _ q => by rw [q8] at q; cases q) q5, q6, q7, q8⟩
  · obtain ⟨mc, nc, r⟩ := x.lim
    exact ⟨mc, ns_keep (fun o e => low _ _ (by decide) e) nc, r⟩
theorem IsK.but {P : Params} {h h' : Heap} {C L L' : Addr} {m : Str → Option Value} (x : IsK P h C L) (n : h.Ns L' m) (hm : m "__module__" = none) (k : ∀ b o, b ≠ L' → h.get? b = some o → h'.get? b = some o) : IsK P h' C L := by
  have hst : ∀ b o, (∀ es n, o.data ≠ .dict es n) → h.get? b = some o → h'.get? b = some o := fun b o hd e => k b o (fun z => by
    obtain ⟨o', es, ep, e1, d1, _⟩ := n
    rw [z, e1] at e; cases e
    exact hd _ _ d1) e
  obtain ⟨a, t, v2, v3, n', eC, eN, ep, i0, i1⟩ := x
  refine ⟨a, t, v2, v3, n', hst _ _ nofun eC, k _ _ (fun z => ?_) eN, hst _ _ nofun ep, i0.st hst, i1.st hst⟩
  obtain ⟨o', es, ep', e1, d1, _, hf⟩ := n
  rw [← z, eN] at e1; cases e1
  cases d1
  have := hf "__module__"
  rw [hm] at this
  cases this
section
variable {w : World} {A : Around} {s : Shared} {Q : Value → Shared → Prop} {E : Value → Shared → Prop}
set_option maxHeartbeats 1000000 in
theorem cmp_key_c {n : Nat} (T : TopOk s.heap) (x : KOk s.heap) (hA : Ok A (n + 1))
    (h : ∀ C L h' t', KT s.heap h' → Lo s.heap h' → TopOk h' → KOk h' → IsK w.params h' C L → h'.IsCell (L + 1) (some (.ref 28)) → s.heap.get? C = none → Q (.ref C) { s with heap := h', toks := t' }) : wpAny (MM w) A (call (.ref 35) [.ref 28]) Q E s := by
  refine enter (k := 4) (c := 34) (binds := [("mycmp", .ref 28)]) T hA rfl (fun _ _ => rfl) (fun N x hx => ?_) ⟨rfl, rfl, rfl⟩ fun s₁ y => ?_
  · rw [List.mem_singleton.mp hx]; exact .inr ⟨rfl, rfl⟩
  have k₁ := keptC y
  obtain ⟨h₁, t₁, rfl, kk₁⟩ := k₁
  have T₁ := topC y T
  refine wpAny_execs_cons ?_
  refine cls_exec hA.deeper (x.keeps kk₁) fun C tk h₂ t₂ h110 old kf x₂ iK c0 => ?_
  have hL : 110 ≤ s.heap.objs.size := T.size
  have t30 : ∃ ps, s.heap.get? 30 = some (tabObj ps) := let ⟨ps, e, _⟩ := x.tab; ⟨ps, e⟩
  have t30' : ∃ ps, h₁.get? 30 = some (tabObj ps) := let ⟨ps, e⟩ := t30; ⟨ps, kk₁ _ _ e⟩
  have kt₂ : KT h₁ h₂ := fun b o ho e => kf b o (fun z => by obtain ⟨ps, e'⟩ := t30'; rw [z, e'] at e; cases e; exact ho ps rfl) (fun z => by rw [z] at e; obtain ⟨ps, e'⟩ := old o e; exact ho ps e') e
  have n₂ : h₂.Ns s.heap.objs.size (bindL (envK 4 34 35 s.heap.objs.size).kindOf [("mycmp", Value.ref 28)] fun _ => none) := by
    obtain ⟨o, es, ep, e, d, r⟩ := y.toInCall.ns
    exact ⟨o, es, ep, kt₂ _ _ (fun ps q => by rw [q] at d; cases d) e, d, r⟩
  have c₂ : h₂.IsCell (s.heap.objs.size + 1) (some (.ref 28)) := by
    obtain ⟨o, e, d⟩ := y.cell "mycmp" (s.heap.objs.size + 1) rfl
    exact ⟨o, kt₂ _ _ (fun ps q => by rw [q] at d; cases d) e, d⟩
  refine wpAny_storeName_local (env := envK 4 34 35 s.heap.objs.size) rfl n₂ (fun h₃ n₃ hs₃ => ?_) rfl
  refine wpAny_execs_cons (wpAny_Return_some (wpAny_Name (wpAny_loadName_local rfl rfl n₃ rfl ?_) (by decide)))
  have k₃ : ∀ b o, b ≠ s.heap.objs.size → h₂.get? b = some o → h₃.get? b = some o := fun b o hb e => (hs₃.2 b hb).trans e
  have hst : ∀ b o, (∀ es n, o.data ≠ .dict es n) → h₂.get? b = some o → h₃.get? b = some o := fun b o hd e => k₃ b o (fun z => by
    obtain ⟨o', es, ep, e1, d1, _⟩ := n₂
    rw [z, e1] at e; cases e
    exact hd _ _ d1) e
  have low : ∀ b o, b < 110 → h₂.get? b = some o → h₃.get? b = some o := fun b o hb e => k₃ b o (Nat.ne_of_lt (Nat.lt_of_lt_of_le hb hL)) e
  have kall : KT s.heap h₃ := fun b o ho e => k₃ b o (Nat.ne_of_lt (Heap.lt_size e)) (kt₂ b o ho (kk₁ b o e))
  have lo : Lo s.heap h₃ := fun b o hb h30 e => low b o hb (kf b o h30 (fun z => absurd hb (by rw [z]; exact Nat.not_lt.mpr h110)) (kk₁ b o e))
  refine h C s.heap.objs.size h₃ _ kall lo (T.low fun b o hb h30 _ e => lo b o hb h30 e) (x₂.st hst low) (iK.but n₂ rfl k₃) ?_ ?_
  · obtain ⟨o, e, d⟩ := c₂
    exact ⟨o, hst _ _ (fun _ _ q => by rw [d] at q; cases q) e, d⟩
  · exact none_old ⟨h₁, t₁, rfl, kk₁⟩ c0
end
end Mine
end
section
open PySem PySem.W PySem.W.X PySem.Calls PyProof.Rows Builtin Builtin.Slots
set_option maxRecDepth 100000
namespace Mine
structure KV (h : Heap) (C L p f0 f1 : Addr) (K : Frag) : Prop where
  inn : K.In h
  cls : ∃ cd, clsIn K C = some cd ∧ cd.hasDict = false ∧ cd.mro = [.ref C, .type "object"]
  init : findIn K (.ref C) "__init__" = some (some (.ref f0))
  lt : findIn K (.ref C) "__lt__" = some (some (.ref f1))
  sa : findIn K (.ref C) "__setattr__" = some (some (.builtin "object.__setattr__"))
  ga : findIn K (.ref C) "__getattribute__" = some (some (.builtin "object.__getattribute__"))
  gat : findIn K (.ref C) "__getattr__" = some none
  makes : makesIn K C = true
  plain : plainOver K C = true
  taker : takerIn K C "obj" = some (some (.ref p))
  slot : slotIn K p C = some 0
  tp : typeIn K (.ref p) = some (.type "member_descriptor")
  tf0 : typeIn K (.ref f0) = some (.type "function")
  tf1 : typeIn K (.ref f1) = some (.type "function")
  obj : ∀ od, findObj K C od "obj" = some (.bind (.builtin "member_descriptor.__get__") (.ref p))
  i0 : IsFn h f0 0 L
  i1 : IsFn h f1 1 L
theorem lk_eq {a : Addr} {o : Obj} {l : Frag} : List.lookup a ((a, o) :: l) = some o := by rw [List.lookup_cons, beq_self_eq_true]
theorem lk_ne {a b : Addr} {o : Obj} {l : Frag} (h : a ≠ b) : List.lookup a ((b, o) :: l) = l.lookup a := by
  rw [List.lookup_cons, beq_eq_false_iff_ne.mpr h]
theorem dne {d d' : Data} (e : d = d') (h : (match d, d' with | .cls _, .cls _ => true | .dict .., .dict .. => true | .fields _, .fields _ => true | .func _, .func _ => true | .cls _, _ => false | .dict .., _ => false | .fields _, _ => false | .func _, _ => false | _, _ => true) = false := by rfl) : False := by
  subst e
  cases d <;> cases h
set_option maxHeartbeats 4000000 in
theorem IsK.view {P : Params} {h : Heap} {C L : Addr} (x : IsK P h C L) : ∃ p f0 f1 K, KV h C L p f0 f1 K := by
  obtain ⟨a, t, v2, v3, n', eC, eN, ep, i0, i1⟩ := x
  have j0 := i0
  have j1 := i1
  obtain ⟨doc0, pm0, c0, ctv0, e0, r0⟩ := i0
  obtain ⟨doc1, pm1, c1, ctv1, e1, r1⟩ := i1
  have nCN : (a 0) ≠ C := fun z => by rw [z, eC] at eN; exact dne (congrArg Obj.data (Option.some.inj eN))
  have nCp : (a 1) ≠ C := fun z => by rw [z, eC] at ep; exact dne (congrArg Obj.data (Option.some.inj ep))
  have nNp : (a 1) ≠ (a 0) := fun z => by rw [z, eN] at ep; exact dne (congrArg Obj.data (Option.some.inj ep))
  have nC0 : (a 2) ≠ C := fun z => by rw [z, eC] at e0; exact dne (congrArg Obj.data (Option.some.inj e0))
  have nN0 : (a 2) ≠ (a 0) := fun z => by rw [z, eN] at e0; exact dne (congrArg Obj.data (Option.some.inj e0))
  have np0 : (a 2) ≠ (a 1) := fun z => by rw [z, ep] at e0; exact dne (congrArg Obj.data (Option.some.inj e0))
  have nC1 : (a 3) ≠ C := fun z => by rw [z, eC] at e1; exact dne (congrArg Obj.data (Option.some.inj e1))
  have nN1 : (a 3) ≠ (a 0) := fun z => by rw [z, eN] at e1; exact dne (congrArg Obj.data (Option.some.inj e1))
  have np1 : (a 3) ≠ (a 1) := fun z => by rw [z, ep] at e1; exact dne (congrArg Obj.data (Option.some.inj e1))
  have n01 : (a 3) ≠ (a 2) := fun z => by
    rw [z, e0] at e1
    have q := congrArg Obj.data (Option.some.inj e1)
    have q2 := Data.func.inj q
    have q3 : kqual 0 = kqual 1 := congrArg FuncData.qualname q2
    exact absurd q3 (by decide)
  generalize hoC : kCls a t v2 C = oC at eC
  generalize hoN : kDict P a t v3 n' = oN at eN
  generalize hop : kMem t C = op at ep
  generalize hof0 : fnMade (kname 0) (kqual 0) (kargs 0) (kbody 0) (kscope 0) (kclos 0 L) doc0 pm0 c0 ctv0 = of0 at e0
  generalize hof1 : fnMade (kname 1) (kqual 1) (kargs 1) (kbody 1) (kscope 1) (kclos 1 L) doc1 pm1 c1 ctv1 = of1 at e1
  obtain ⟨K, hK⟩ : ∃ K : Frag, K = [(C, oC), ((a 0), oN), ((a 1), op), ((a 2), of0), ((a 3), of1)] := ⟨_, rfl⟩
  have lC : K.lookup C = some oC := by rw [hK, lk_eq]
  have lN : K.lookup (a 0) = some oN := by rw [hK, lk_ne nCN, lk_eq]
  have lp : K.lookup (a 1) = some op := by rw [hK, lk_ne nCp, lk_ne nNp, lk_eq]
  have l0 : K.lookup (a 2) = some of0 := by rw [hK, lk_ne nC0, lk_ne nN0, lk_ne np0, lk_eq]
  have l1 : K.lookup (a 3) = some of1 := by rw [hK, lk_ne nC1, lk_ne nN1, lk_ne np1, lk_ne n01, lk_eq]
  have hin : K.In h := Frag.in_of (as := [C, (a 0), (a 1), (a 2), (a 3)]) (by rw [hK]; rfl) (by rw [hK]; simp [eC, eN, ep, e0, e1])
  have cC : clsIn K C = some { name := "K", bases := [.type "object"], mro := [.ref C, .type "object"], ns := (a 0), qualname := "cmp_to_key.<locals>.K", hasDel := false, hasDict := false, slotNames := ["obj"] } := by unfold clsIn; rw [lC, ← hoC]
  have along : ∀ name, findIn K (.ref C) name = alongIn K name [.ref C, .type "object"] := fun name => by unfold findIn; dsimp only; rw [lC, ← hoC]
  have own : ∀ name, ownIn K name (.ref C) = nsIn K (a 0) name := fun name => by unfold ownIn; dsimp only; rw [lC, ← hoC]
  have ns : ∀ name r, lookIn name oN = some r → nsIn K (a 0) name = some r := fun name r e => by
    unfold nsIn; rw [lN]; rw [← hoN] at e ⊢; exact e
  have hit : ∀ name v, lookIn name oN = some (some v) → findIn K (.ref C) name = some (some v) := fun name v e => by
    rw [along]; unfold alongIn; rw [own, ns _ _ e]
  have miss : ∀ name r, lookIn name oN = some none → fastBuiltinOwn "object" name = r → findIn K (.ref C) name = some r := fun name r e e' => by
    rw [along]; unfold alongIn; rw [own, ns _ _ e]; show alongIn K name [.type "object"] = some r; show (match some (fastBuiltinOwn "object" name) with | some (some v) => some (some v) | some none => alongIn K name [] | none => none) = some r; rw [e']; cases r <;> rfl
  have tyC : typeIn K (.ref C) = some (.type "type") := by show (K.lookup C).map (·.cls) = _; rw [lC, ← hoC]; rfl
  have typ : typeIn K (.ref (a 1)) = some (.type "member_descriptor") := by show (K.lookup (a 1)).map (·.cls) = _; rw [lp, ← hop]; rfl
  have fobj : findIn K (.ref C) "obj" = some (some (.ref (a 1))) := hit _ _ (by rw [← hoN]; rfl)
  have sget : specialIn K (.ref (a 1)) "__get__" = some (some (.builtin "member_descriptor.__get__")) := by unfold specialIn; rw [typ]; kernel_rfl
  have sset : ∃ v, specialIn K (.ref (a 1)) "__set__" = some (some v) := ⟨.builtin "member_descriptor.__set__", by unfold specialIn; rw [typ]; kernel_rfl⟩
  have takes : takesIn K (.ref (a 1)) = some true := by obtain ⟨v, e⟩ := sset; unfold takesIn; rw [e]
  refine ⟨(a 1), (a 2), (a 3), K, hin, ⟨_, cC, rfl, rfl⟩, hit _ _ (by rw [← hoN]; rfl), hit _ _ (by rw [← hoN]; rfl), miss _ _ (by rw [← hoN]; rfl) (by kernel_rfl), miss _ _ (by rw [← hoN]; rfl) (by kernel_rfl), miss _ _ (by rw [← hoN]; rfl) (by kernel_rfl), ?_, ?_, ?_, ?_, typ, ?_, ?_, ?_, j0, j1⟩
  · have s1 : specialIn K (.ref C) "__call__" = some (some (.builtin "type.__call__")) := by unfold specialIn; rw [tyC]; kernel_rfl
    have s2 : instIn K (.ref C) (.type "type") = some true := by unfold instIn; rw [tyC]; kernel_rfl
    unfold makesIn
    rw [lC, ← hoC]
    dsimp only
    rw [s1, s2]
    simp
  · unfold plainOver; rw [cC]; rfl
  · unfold takerIn; rw [fobj]; dsimp only [Option.bind]; rw [takes]; rfl
  · unfold slotIn recIn
    rw [lp, cC, ← hop]
    simp [rawInt]
  · show (K.lookup (a 2)).map (·.cls) = _; rw [l0, ← hof0]; rfl
  · show (K.lookup (a 3)).map (·.cls) = _; rw [l1, ← hof1]; rfl
  · intro od
    unfold findObj
    rw [cC, fobj]
    dsimp only [Option.bind]
    rw [sget]
    dsimp only
    rw [takes]
end Mine
end
section
open PySem PySem.W PySem.W.X PySem.Calls PyProof.Rows Builtin Builtin.Slots
set_option maxRecDepth 100000
namespace Mine
abbrev kinst (C dx : Addr) (v : Value) : Obj := { cls := .ref C, dict := some dx, data := .plain, slots := #[some v] }
theorem KV.keeps {h h' : Heap} {C L p f0 f1 : Addr} {K : Frag} (x : KV h C L p f0 f1 K) (k : ∀ b o, h.get? b = some o → h'.get? b = some o) : KV h' C L p f0 f1 K :=
  { x with inn := x.inn.keeps k, i0 := x.i0.keeps k, i1 := x.i1.keeps k }
theorem Ok.tc {A : Around} {n : Nat} (x : Ok A (n + 1)) (C : Addr) (val : Value) : Ok (A.under (.builtin "type.__call__" ⟨[.ref C, val], []⟩)) n := by
  have h1 : (Code.builtin "type.__call__" ⟨[.ref C, val], []⟩).weight ≤ 1 := Nat.le_of_ble_eq_true rfl
  have h2 : (Code.builtin "type.__call__" ⟨[.ref C, val], []⟩).cUnits ≤ 10 := Nat.le_of_ble_eq_true rfl
  refine ⟨x.hh, ?_, ?_⟩
  · have := x.dp
    show A.depth + (Code.builtin "type.__call__" ⟨[.ref C, val], []⟩).weight + n < 900
    omega
  · have := x.un
    show A.units + (Code.builtin "type.__call__" ⟨[.ref C, val], []⟩).cUnits + 20 * n < 9000
    omega
section
variable {w : World} {A : Around} {s : Shared} {Q : Value → Shared → Prop} {E : Value → Shared → Prop}
set_option maxHeartbeats 1000000 in
theorem mk_c {n : Nat} {C L p f0 f1 : Addr} {K : Frag} {val : Value} (T : TopOk s.heap) (v : KV s.heap C L p f0 f1 K) (hA : Ok A (n + 2))
    (h : ∀ x dx s', Keeps s s' → s.heap.get? x = none → s'.heap.get? x = some (kinst C dx val) → s'.heap.get? dx = some emptyDict → Q (.ref x) s') : wpAny (MM w) A (call (.ref C) [val]) Q E s := by
  obtain ⟨hh, g, d, t, os⟩ := s
  refine wpAny_call (make_core (makes_of v.inn v.makes) (looks_findIn v.inn v.init) (fun self => bind_fn v.inn self v.tf0) (.inl rfl) ?_)
  have k₁ : ∀ b o, hh.get? b = some o → ((hh.push emptyDict).push (instObj C hh.objs.size)).get? b = some o := fun b o e => Heap.get?_push_of_some _ (Heap.get?_push_of_some _ e)
  have hx : ((hh.push emptyDict).push (instObj C hh.objs.size)).get? (hh.objs.size + 1) = some (instObj C hh.objs.size) := by heap_get
  have hdx : ((hh.push emptyDict).push (instObj C hh.objs.size)).get? hh.objs.size = some emptyDict := by heap_get
  have hsz : hh.objs.size + 1 < ((hh.push emptyDict).push (instObj C hh.objs.size)).objs.size := Heap.lt_size hx
  generalize hx₁ : (hh.push emptyDict).push (instObj C hh.objs.size) = h₁ at k₁ hx hdx hsz ⊢
  have v₁ := v.keeps k₁
  obtain ⟨doc, pm, c', ctv, e, hrec⟩ := v₁.i0
  have hA' := hA.tc (n := n + 1) C val
  refine codeAny_call_cells (body := kbody 0) (binds := [("self", .ref (hh.objs.size + 1)), ("obj", val)]) hA'.room e rfl (T.lim.keeps k₁) hrec rfl rfl rfl (fun y hy => ?_) fun s₂ x => ?_
  · rcases List.mem_cons.mp hy with rfl | hy
    · exact .inl rfl
    · rw [List.mem_singleton.mp hy]; exact .inl rfl
  have k₂ : ∀ b o, h₁.get? b = some o → s₂.heap.get? b = some o := x.toInCall.keep
  have v₂ := v₁.keeps k₂
  refine wpAny_execs_cons (plainObj_wpAny_Assign_Attribute (nameL x rfl (nameL x rfl ?_)))
  have I : InstAt s₂.heap (hh.objs.size + 1) (instObj C hh.objs.size) C (some emptyDict) := ⟨k₂ _ _ hx, rfl, rfl, k₂ _ _ hdx⟩
  have x1 : hh.get? (hh.objs.size + 1) = none := Heap.get?_none_of_le (Nat.le_succ _)
  have x0 : hh.get? hh.objs.size = none := Heap.get?_none_of_le (Nat.le_refl _)
  refine set_plain v₂.inn I v₂.sa (osa_descr KF.slot_mset v₂.inn I v₂.plain v₂.taker v₂.tp ?_)
  have F : Fr hh h₁.objs.size s₂.heap _ := ⟨x.toInCall.ns, fun b o e => k₂ _ _ (k₁ _ _ e), Nat.le_of_lt (Nat.lt_of_succ_lt hsz)⟩
  have N : News hh h₁.objs.size s₂.heap ([] ++ (hh.objs.size + 1, instObj C hh.objs.size) :: [(hh.objs.size, emptyDict)]) := fun q hq => by
    rcases List.mem_cons.mp hq with rfl | hq
    · exact ⟨k₂ _ _ hx, Nat.ne_of_lt hsz, x1⟩
    · rw [List.mem_singleton.mp hq]
      exact ⟨k₂ _ _ hdx, Nat.ne_of_lt (Nat.lt_of_succ_lt hsz), x0⟩
  have hne : ∀ q ∈ [(hh.objs.size, emptyDict)], q.1 ≠ hh.objs.size + 1 := fun q hq => by rw [List.mem_singleton.mp hq]; exact Nat.ne_of_lt (Nat.lt_succ_self _)
  have he : ({ instObj C hh.objs.size with slots := ((instObj C hh.objs.size).slots ++ Array.replicate (0 + 1 - (instObj C hh.objs.size).slots.size) none).setIfInBounds 0 (some val) } : Obj) = kinst C hh.objs.size val := rfl
  have hfr : (kinst C hh.objs.size val).isFreed = false := rfl
  refine slot_set (i := 0) (ox := instObj C hh.objs.size) (ox' := kinst C hh.objs.size val) (pre := []) (post := [(hh.objs.size, emptyDict)]) F N v₂.inn I v₂.slot (Nat.le_of_ble_eq_true rfl) (fun _ hq => absurd hq List.not_mem_nil) hne he hfr fun h' F' N' => ?_
  refine wpAny_execs_nil ⟨rfl, ?_⟩
  obtain ⟨h₂, t₂, rfl⟩ := x.toInCall.same
  exact h _ hh.objs.size _ ⟨h', _, rfl, F'.keep⟩ x1 (N' _ (.head _)).1 (N' _ (.tail _ (.head _))).1
end
end Mine
end
section
open PySem PySem.W PySem.W.X PySem.Calls PyProof.Rows Builtin Builtin.Slots
set_option maxRecDepth 100000
namespace Mine
theorem fills_bool_sub : fillsNumberSlot (.type "bool") Operator.Sub.info.2 = pure true := by kernel_rfl
theorem slot_bool_sub : Slot "bool" (dunder Operator.Sub.info.2) "int.__sub__" :=
  .of (owner := "int") (n := "__sub__") (by rw [typeLookup_type, builtinLookup_eq_fast]; kernel_rfl) (by decide +kernel) (by decide +kernel) (by decide +kernel)
    (by first | exact .inl (by decide +kernel) | exact .inr (by decide +kernel)) (by rw [isSubtype_type]; kernel_rfl)
def bi (b : Bool) : Int := if b then 1 else 0
theorem gives_bool_sub (a b : Bool) : Gives (Builtin.«int.__sub__» ⟨[.bool a, .bool b], []⟩) (.int (bi a - bi b)) := by cases a <;> cases b <;> exact .of_eq rfl
section
variable {w : World} {A : Around} {s : Shared} {Q : Value → Shared → Prop} {E : Value → Shared → Prop}
theorem sub_bool {a b : Bool} (h : Q (.int (bi a - bi b) s.toks) { s with toks := s.toks + 1 }) : wpAny (MM w) A (binaryOp .Sub (.bool a) (.bool b)) Q E s :=
  binaryOp_gives (op := .Sub) (PySem.typeIs_bool s a) (PySem.typeIs_bool s b) fills_bool_sub slot_bool_sub F.entry_int_sub (F.args_int_sub_2 _ _) (gives_bool_sub a b) trivial h
theorem twc_c {n : Nat} {a b : Int} {t u : Tok} (T : TopOk s.heap) (hA : Ok A (n + 1))
    (h : ∀ v s', Keeps s s' → Q (.int (bi (decide (a > b)) - bi (decide (a < b))) v) s') : wpAny (MM w) A (call (.ref 28) [.int a t, .int b u]) Q E s := by
  refine enter (k := 2) (c := 27) (binds := [("x", .int a t), ("y", .int b u)]) T hA rfl (fun _ _ => rfl) (fun N x hx => ?_) ⟨rfl, rfl, rfl⟩ fun s₁ x => ?_
  · rcases List.mem_cons.mp hx with rfl | hx
    · exact .inl rfl
    · rw [List.mem_singleton.mp hx]; exact .inl rfl
  refine wpAny_execs_cons (wpAny_Return_some (wpAny_BinOp (wpAny_Compare1 (nameL x rfl (nameL x rfl (gt_int (wpAny_Compare1 (nameL x rfl (nameL x rfl (lt_int (sub_bool ?_))))))))))) 
  exact h _ _ (Keeps.trans (keptC x) (Keeps.tok _ _))
theorem attrObj {C L p f0 f1 x dx : Addr} {K : Frag} {val : Value} {env : Env} {o : Expr} {pos : Pos} (hv : ∀ i, val ≠ .builtin i)
    (h : wpAny (MM w) A (eval o env) (fun ov s₁ => ov = .ref x ∧ KV s₁.heap C L p f0 f1 K ∧ s₁.heap.get? x = some (kinst C dx val) ∧ s₁.heap.get? dx = some emptyDict ∧ ∀ s', Keeps s₁ s' → Q val s') E s)
    (hbase : attributeBase o "obj" env (eval o env) = eval o env := by rfl) : wpAny (MM w) A (eval (.Attribute o "obj" pos) env) Q E s := by
  rw [arm_eval_Attribute, hbase]
  refine wpAny_bind (wpAny_mono h (fun ov s₁ q => ?_) fun _ _ z => z)
  obtain ⟨rfl, v, hx, hdx, hq⟩ := q
  have I : InstAt s₁.heap x (kinst C dx val) C (some emptyDict) := ⟨hx, rfl, rfl, hdx⟩
  refine wpAny_bind (wpAny_standAt (wpAny_bind (wpAny_holding ?_)))
  have hh : handedIn val = true := by cases val <;> first | rfl | exact absurd rfl (hv _)
  refine get_bind v.inn I v.ga (v.obj _) v.gat ?_
  refine wpAny_call (slot_get (s := { s₁ with toks := s₁.toks + 1 }) v.inn I v.slot (v := val) rfl ?_)
  dsimp only
  rw [handedOut_of hh]
  refine wpAny_pure (wpAny_bind (wpAny_letTemporaryGo (wpAny_pure ?_)))
  exact hq _ (Keeps.tok _ _)
def ltEnv (c' f1 L Lf : Addr) : Env := newEnv (kscope 1) Lf mainGlobals [("mycmp", L + 1)] (kqual 1 ++ ".<locals>.") (some f1) (.ref c') none builtinsNs
set_option maxHeartbeats 1000000 in
theorem lt_c {n : Nat} {C L p f0 f1 x dx y dy : Addr} {K : Frag} {a b : Int} {t u : Tok} (T : TopOk s.heap) (v : KV s.heap C L p f0 f1 K) (hc : s.heap.IsCell (L + 1) (some (.ref 28))) (hA : Ok A (n + 2))
    (hx : s.heap.get? x = some (kinst C dx (.int a t))) (hdx : s.heap.get? dx = some emptyDict) (hy : s.heap.get? y = some (kinst C dy (.int b u))) (hdy : s.heap.get? dy = some emptyDict)
    (h : ∀ s', Keeps s s' → Q (.bool (decide (a < b))) s') : wpAny (MM w) A (call (.ref f1) [.ref x, .ref y]) Q E s := by
  obtain ⟨doc, pm, c', ctv, e, hrec⟩ := v.i1
  refine wpAny_call (codeAny_call_function (body := kbody 1) hA.room e rfl rfl rfl rfl hrec ?_)
  refine wpAny_of_eq (a := ([("self", .ref x), ("other", .ref y)] : List (Str × Value))) rfl ?_
  refine wpAny_newFunctionEnv (show ∀ x ∈ (kscope 1).names, x.2 ≠ .cell by decide) (fun z hz => ?_) (fun h₁ hns hsb => ⟨?_, ?_⟩) rfl
  · rcases List.mem_cons.mp hz with rfl | hz
    · rfl
    · rw [List.mem_singleton.mp hz]; rfl
  · exact T.lim.fresh _ hsb
  have hk₁ : ∀ b o, s.heap.get? b = some o → h₁.get? b = some o := fun b o e => hsb.extBut b o (Nat.ne_of_lt (Heap.lt_size e)) (Heap.get?_push_of_some _ e)
  have k₁ : Keeps s { s with heap := h₁, toks := s.toks + 2 } := Keeps.mk hk₁
  have T₁ : TopOk h₁ := T.keeps k₁
  have hA' : Ok (A.deeper (ltEnv c' f1 L s.heap.objs.size)) (n + 1) := hA.deeper
  refine codeAny_func (env := ltEnv c' f1 L s.heap.objs.size) ?_
  refine wpAny_execs_cons (wpAny_Return_some (wpAny_Compare1 ?_))
  refine wpAny_Call_NameR (wpAny_Name (wpAny_loadName_free rfl rfl rfl (hc.keeps hk₁) ?_) (by decide))
  refine callWith_of (P := FnHere 28) rfl fnKeeper (evalArgs_plain ?_)
  refine arg (attrObj (x := x) (dx := dx) (val := .int a t) nofun (wpAny_Name (wpAny_loadName_local rfl rfl hns (v := .ref x) rfl ⟨rfl, v.keeps hk₁, hk₁ _ _ hx, hk₁ _ _ hdx, fun s₂ k₂ => ?_⟩) (by decide)))
  have k₂' := Keeps.trans k₁ k₂
  have k₂h : ∀ b o, s.heap.get? b = some o → s₂.heap.get? b = some o := fun b o e => Keeps.get k₂' e
  have ns₂ : s₂.heap.Ns s.heap.objs.size _ := hns.keeps fun b o e => Keeps.get k₂ e
  refine arg (attrObj (x := y) (dx := dy) (val := .int b u) nofun (wpAny_Name (wpAny_loadName_local rfl rfl ns₂ (v := .ref y) rfl ⟨rfl, v.keeps k₂h, k₂h _ _ hy, k₂h _ _ hdy, fun s₃ k₃ => ?_⟩) (by decide)))
  have T₃ : TopOk s₃.heap := T.keeps (Keeps.trans k₂' k₃)
  refine argEnd ⟨fnHere T₃ rfl, twc_c T₃ hA' fun v s₄ k₄ => wpAny_Constant_int (lt_int ?_)⟩
  have hb : decide (bi (decide (a > b)) - bi (decide (a < b)) < 0) = decide (a < b) := by
    by_cases h1 : a < b
    · have h2 : ¬ a > b := by omega
      rw [decide_eq_true h1, decide_eq_false h2]; rfl
    · rw [decide_eq_false h1]
      by_cases h2 : a > b
      · rw [decide_eq_true h2]; rfl
      · rw [decide_eq_false h2]; rfl
  rw [hb]
  exact h _ (Keeps.trans k₂' (Keeps.trans k₃ (Keeps.trans k₄ (Keeps.tok _ _))))
end
end Mine
end
section
open PySem PySem.W PySem.W.X PySem.Calls PyProof.Rows Builtin Builtin.Slots
set_option maxRecDepth 100000
namespace Mine
section
variable {w : World} {A : Around} {s : Shared} {E : Value → Shared → Prop}
theorem key_lt {n : Nat} {C L p f0 f1 x dx y dy : Addr} {K : Frag} {a b : Int} {t u : Tok} {Q : Bool → Shared → Prop} (T : TopOk s.heap) (v : KV s.heap C L p f0 f1 K) (hc : s.heap.IsCell (L + 1) (some (.ref 28))) (hA : Ok A (n + 2))
    (hx : s.heap.get? x = some (kinst C dx (.int a t))) (hdx : s.heap.get? dx = some emptyDict) (hy : s.heap.get? y = some (kinst C dy (.int b u))) (hdy : s.heap.get? dy = some emptyDict)
    (h : ∀ s', Keeps s s' → Q (decide (a < b)) s') : wpAny (MM w) A (keyLt' oneType' (.ref x) (.ref y)) Q E s := by
  rw [keyLt'_oneType, oneLt'_eq]
  simp only [if_true]
  refine wpAny_bind (wpAny_cRoomFor hA.units ?_)
  have I : InstAt s.heap x (kinst C dx (.int a t)) C (some emptyDict) := ⟨hx, rfl, rfl, hdx⟩
  refine wpAny_bind (ifBound_K v.inn I v.lt (beq_iff_eq.mpr v.tf1) (lt_c T v hc hA hx hdx hy hdy fun s' k => ?_))
  exact wpAny_truthy_bool (h s' k)
end
/-- the keys: instances of K over the values -/
def Insts (C : Addr) (h : Heap) (ks vs : List Value) : Prop := ks.length = vs.length ∧ ∀ (j : Nat) (v : Value), vs[j]? = some v → ∃ x dx : Addr, ks[j]? = some (Value.ref x) ∧ h.get? x = some (kinst C dx v) ∧ h.get? dx = some emptyDict
theorem Insts.keep {C : Addr} {h h' : Heap} {ks vs : List Value} (x : Insts C h ks vs) (k : ∀ b o, (∀ items n, o ≠ seqObj "list" items n) → h.get? b = some o → h'.get? b = some o) : Insts C h' ks vs := by
  refine ⟨x.1, fun j v e => ?_⟩
  obtain ⟨y, dy, e1, e2, e3⟩ := x.2 j v e
  refine ⟨y, dy, e1, k _ _ (fun items n q => ?_) e2, k _ _ (fun items n q => ?_) e3⟩
  · have := congrArg Obj.data q; cases this
  · have := congrArg Obj.data q; cases this
theorem Insts.snoc {C : Addr} {h : Heap} {ks vs : List Value} {v : Value} {y dy : Addr} (x : Insts C h ks vs) (e1 : h.get? y = some (kinst C dy v)) (e2 : h.get? dy = some emptyDict) : Insts C h (ks ++ [.ref y]) (vs ++ [v]) := by
  refine ⟨by simp [x.1], fun j v' e => ?_⟩
  by_cases hj : j < vs.length
  · rw [List.getElem?_append_left hj] at e
    obtain ⟨z, dz, f1, f2, f3⟩ := x.2 j v' e
    exact ⟨z, dz, by rw [List.getElem?_append_left (by rw [x.1]; exact hj)]; exact f1, f2, f3⟩
  · have hl := (List.getElem?_eq_some_iff.mp e).1
    have hj' : j = vs.length := by simp at hl; omega
    subst hj'
    rw [List.getElem?_append_right (Nat.le_refl _), Nat.sub_self] at e
    cases e
    refine ⟨y, dy, ?_, e1, e2⟩
    rw [← x.1, List.getElem?_append_right (Nat.le_refl _), Nat.sub_self]
    rfl
section
variable {w : World} {A : Around} {s : Shared} {E : Value → Shared → Prop} {h₀ : Heap} {C L p f0 f1 a kS : Addr} {K : Frag} {vs : List Value} {ns : List Int} {e1 : Nat} {n : Nat} {P' : PySem.Fin → Shared → Prop}
theorem perm_out {p : Array Nat} (hp : p.Perm (List.range ns.length).toArray) : (p.toList.map fun i => ns.getD i 0).Perm ns := by
  have h1 : p.toList.Perm (List.range ns.length) := by simpa using Array.perm_iff_toList_perm.mp hp
  have h2 := h1.map fun i => ns.getD i 0
  have h3 : (List.range ns.length).map (fun i => ns.getD i 0) = ns := by
    apply List.ext_getElem
    · simp
    · intro i a b
      simp at a
      simp [a]
  rw [h3] at h2
  exact h2
theorem ints_pick (hi : IntsAre vs ns) : ∀ {l : List Nat}, (∀ i ∈ l, i < ns.length) → IntsAre (l.map fun i => vs.getD i .none) (l.map fun i => ns.getD i 0)
  | [], _ => .nil
  | i :: l, h => by
    have hlt := h i (.head _)
    obtain ⟨t, e⟩ := hi.get i (ns.getD i 0) (by simp [hlt])
    have e' : vs.getD i .none = .int (ns.getD i 0) t := by rw [List.getD_eq_getElem?_getD, e]; rfl
    rw [List.map_cons, List.map_cons, e']
    exact .cons _ _ (ints_pick hi fun j hj => h j (.tail _ hj))
/-- the end: the list is laid back -/
theorem tail_k {keys : Array Value} {e : Nat} {st : SortSt} {out : List Value} (k₀ : ∀ b o, h₀.get? b = some o → s.heap.get? b = some o) (a0 : h₀.get? a = none) (kS0 : h₀.get? kS = none) (hka : kS ≠ a)
    (hkS : s.heap.get? kS = some (seqObj "list" keys e)) (ha : s.heap.get? a = some (seqObj "list" #[] e1)) (h64 : vs.length < 64) (hsz : keys.size = vs.length) (hout : (arrOf st).map (·.2) = out.toArray) (hol : out.length = vs.length) (hfl : failedOf st = none)
    (h : ∀ h' c, (∀ b o, h₀.get? b = some o → h'.get? b = some o) → h'.get? a = some (seqObj "list" out.toArray c) → P' (.done (.ret .none)) { s with heap := h' }) :
    wpAny (MM w) A (ksk_tail a false e1 (.ref kS) st) P' E s := by
  have s1 := Heap.SameBut.update s.heap kS (Obj.mapSeq fun _ => (#[] : Array Value))
  have na1 : (s.heap.update kS (Obj.mapSeq fun _ => (#[] : Array Value))).get? a = some (seqObj "list" #[] e1) := (s1.2 a hka.symm).trans ha
  have s2 := Heap.SameBut.update (s.heap.update kS (Obj.mapSeq fun _ => (#[] : Array Value))) a (Obj.mapSeq fun _ => out.toArray)
  obtain ⟨c2, hc2⟩ : ∃ c2, ((s.heap.update kS (Obj.mapSeq fun _ => (#[] : Array Value))).update a (Obj.mapSeq fun _ => out.toArray)).get? a = some (seqObj "list" out.toArray c2) := ⟨_, get?_update_seq na1 fun _ => out.toArray⟩
  unfold ksk_tail
  dsimp only
  rw [hout]
  refine wpAny_bind (listUpdate_at hkS rfl ?_ (by rw [hsz, sizeLine_eq]; omega) (Nat.zero_le _))
  refine wpAny_bind (wpAny_letGo ?_)
  refine wpAny_bind (seqEpoch_at na1 rfl ?_)
  refine wpAny_bind (listUpdate_at na1 rfl ?_ (Nat.zero_le _) (by show out.toArray.size ≤ _; rw [List.size_toArray, sizeLine_eq]; omega))
  rw [hfl]
  simp only [bne_self_eq_false, Bool.false_eq_true, if_false]
  refine wpAny_pure (h _ c2 (fun b o e => ?_) hc2)
  have hb1 : b ≠ kS := fun q => by rw [q, kS0] at e; cases e
  have hb2 : b ≠ a := fun q => by rw [q, a0] at e; cases e
  exact (s2.2 b hb2).trans ((s1.2 b hb1).trans (k₀ b o e))
theorem Insts.type {M : Model} {h : Heap} {ks : List Value} (x : Insts C h ks vs) : ∀ v ∈ ks, Looks M h (typeOf v) (.ref C) := fun v hv => by
  obtain ⟨j, hj⟩ := List.getElem?_of_mem hv
  have hl : j < ks.length := (List.getElem?_eq_some_iff.mp hj).1
  have hl' : j < vs.length := by rw [← x.1]; exact hl
  obtain ⟨y, dy, e1, e2, _⟩ := x.2 j vs[j] (List.getElem?_eq_getElem hl')
  rw [e1] at hj
  cases hj
  exact (Looks.ld e2).andThen .now
theorem item_k {h : Heap} {keys : Array Value} (x : Insts C h keys.toList vs) (hi : IntsAre vs ns) {i : Nat} (hn : i < ns.length) : ∃ (y dy : Addr) (t : Tok), kas_item (keys.zip vs.toArray) i = (.ref y, vs.getD i .none) ∧ h.get? y = some (kinst C dy (.int (ns.getD i 0) t)) ∧ h.get? dy = some emptyDict := by
  obtain ⟨t, e⟩ := hi.get i (ns.getD i 0) (by simp [hn])
  obtain ⟨y, dy, f1, f2, f3⟩ := x.2 i _ e
  refine ⟨y, dy, t, ?_, f2, f3⟩
  have hl := hi.length
  have hk : keys.size = vs.length := by rw [← Array.length_toList]; exact x.1
  unfold kas_item
  have f1' : keys[i]? = some (.ref y) := by rw [← Array.getElem?_toList]; exact f1
  rw [Array.getD_eq_getD_getElem?, Array.getElem?_zip_eq_some (z := (Value.ref y, Value.int (ns.getD i 0) t)) |>.mpr ⟨f1', by simpa using e⟩]
  have e' : vs.getD i .none = .int (ns.getD i 0) t := by rw [List.getD_eq_getElem?_getD, e]; rfl
  rw [e']
  rfl
/-- the sort itself, over the keys -/
theorem end_k {keys : Array Value} {e : Nat} (T : TopOk h₀) (v : KV h₀ C L p f0 f1 K) (hc : h₀.IsCell (L + 1) (some (.ref 28))) (hA : Ok A (n + 2)) (k₀ : ∀ b o, h₀.get? b = some o → s.heap.get? b = some o) (a0 : h₀.get? a = none) (kS0 : h₀.get? kS = none) (hka : kS ≠ a)
    (hkS : s.heap.get? kS = some (seqObj "list" keys e)) (ha : s.heap.get? a = some (seqObj "list" #[] e1)) (x : Insts C s.heap keys.toList vs) (hi : IntsAre vs ns) (h64 : ns.length < 64)
    (h : ∀ h' tk out c ns', (∀ b o, h₀.get? b = some o → h'.get? b = some o) → h'.get? a = some (seqObj "list" out c) → IntsAre out.toList ns' → ns'.Perm ns → ns'.Pairwise (· ≤ ·) → P' (.done (.ret .none)) { s with heap := h', toks := tk }) :
    wpAny (MM w) A (ksk_end a false vs.toArray e1 (.ref kS) keys) P' E s := by
  have hl := hi.length
  have hsz : keys.size = vs.length := by rw [← Array.length_toList]; exact x.1
  have hzs : (keys.zip vs.toArray).size = vs.length := by rw [Array.size_zip, hsz, List.size_toArray, Nat.min_self]
  unfold ksk_end
  dsimp only
  simp only [Bool.false_eq_true, if_false]
  by_cases h2 : vs.toArray.size < 2
  · rw [if_pos h2, if_pos h2]
    refine wpAny_bind (wpAny_pure ?_)
    rw [StateT.run_pure]
    refine wpAny_bind (wpAny_pure ?_)
    dsimp only
    rw [List.size_toArray] at h2
    refine tail_k (st := SortSt.mk' general' (keys.zip vs.toArray) #[] 7 none) (out := vs) k₀ a0 kS0 hka hkS ha (by omega) hsz ?_ rfl rfl fun h' c k' ha' => h h' s.toks _ c ns k' ha' (by simpa using hi) (List.Perm.refl _) ?_
    · show (keys.zip vs.toArray).map (·.2) = vs.toArray
      exact Array.map_snd_zip (by rw [hsz, List.size_toArray]; exact Nat.le_refl _)
    · match ns, hl with
      | [], _ => exact .nil
      | [_], _ => exact List.pairwise_singleton _ _
      | _ :: _ :: _, hl => simp at hl; omega
  · rw [if_neg h2, if_neg h2]
    rw [List.size_toArray] at h2
    have hks : keys = keys.toList.toArray := by simp
    have kind : ∀ {Q : SortKind → Shared → Prop}, Q oneType' s → wpAny (MM w) A (keyKind' keys) Q E s := fun {Q} q => by
      rw [hks]
      exact kas_kind (by rw [x.1]; omega) x.type rfl (by simp) q
    refine wpAny_bind (kind ?_)
    have est : SortSt.mk' oneType' (keys.zip vs.toArray) #[] 7 none = kas_st oneType' (keys.zip vs.toArray) (List.toArray (List.range ns.length)) := by
      have e := kas_range (keys.zip vs.toArray)
      rw [hzs, hl] at e
      show _ = SortSt.mk' oneType' ((List.toArray (List.range ns.length)).map (kas_item (keys.zip vs.toArray))) #[] 7 none
      rw [e]
    obtain ⟨⟨sp, ss⟩, sk⟩ := sort_ok (fun i => ns.getD i 0) (n := ns.length) (by omega)
    have ask : (kas_sort ns.length).kasWp (kas_cmp P w A oneType' (keys.zip vs.toArray)) (fun q s' => q = kev (klt fun i => ns.getD i 0) (kas_sort ns.length) ∧ Keeps s s') s := by
      refine kin_wp (I := fun s' => Keeps s s') (fun i j Cc s' hi' hj' hs' hq => ?_) _ _ sk (Keeps.refl s) fun s' hs' => ⟨rfl, hs'⟩
      obtain ⟨y, dy, t, g1, g2, g3⟩ := item_k x hi hi'
      obtain ⟨z, dz, u, g4, g5, g6⟩ := item_k x hi hj'
      show wpAny (MM w) A (keyLt' oneType' (kas_item (keys.zip vs.toArray) i).1 (kas_item (keys.zip vs.toArray) j).1) Cc _ s'
      rw [g1, g4]
      have k' : ∀ b o, h₀.get? b = some o → s'.heap.get? b = some o := fun b o e => Keeps.get hs' (k₀ b o e)
      refine key_lt (T.keep (KeepH.of k')) (v.keeps k') (hc.keeps k') hA (Keeps.get hs' g2) (Keeps.get hs' g3) (Keeps.get hs' g5) (Keeps.get hs' g6) fun s'' hs'' => ?_
      exact hq s'' (Keeps.trans hs' hs'')
    have run := kas_runs (E := E) (Q := fun _ st' s' => ∃ q : Array Nat, arrOf st' = q.map (kas_item (keys.zip vs.toArray)) ∧ failedOf st' = none ∧ q = kev (klt fun i => ns.getD i 0) (kas_sort ns.length) ∧ Keeps s s')
      (by omega) h64 (fun p' st' s' a1 a2 a3 a4 => ⟨p', a2, a3, a4.1, a4.2⟩) ask
    rw [← est] at run
    refine wpAny_bind (wpAny_mono run ?_ fun _ _ e => e)
    rintro ⟨⟨⟩, st'⟩ s' ⟨q, har, hf, hq, ks⟩
    rw [← hq] at sp ss
    have hql : q.toList.Perm (List.range ns.length) := by simpa using Array.perm_iff_toList_perm.mp sp
    have hqs : q.size = ns.length := by rw [← Array.length_toList, hql.length_eq, List.length_range]
    have hqm : ∀ i ∈ q.toList, i < ns.length := fun i hm => List.mem_range.mp (hql.mem_iff.mp hm)
    obtain ⟨h', tk', rfl, kk⟩ := ks
    dsimp only
    refine tail_k (s := { s with heap := h', toks := tk' }) (out := q.toList.map fun i => vs.getD i .none) (fun b o e => kk b o (k₀ b o e)) a0 kS0 hka (kk _ _ hkS) (kk _ _ ha) (by omega) hsz ?_ ?_ hf fun h'' c k'' ha'' => h h'' tk' _ c (q.toList.map fun i => ns.getD i 0) k'' ha'' (by simpa using ints_pick hi hqm) (perm_out sp) ?_
    · apply Array.toList_inj.mp
      rw [har, Array.map_map, Array.toList_map]
      exact List.map_congr_left fun i hm => by
        obtain ⟨y, dy, t, g1, _⟩ := item_k x hi (hqm i hm)
        show (kas_item (keys.zip vs.toArray) i).2 = _
        rw [g1]
    · rw [List.length_map, Array.length_toList, hqs, hl]
    · rw [List.pairwise_iff_getElem]
      intro i j h1 h3 hij
      have h1' : i < q.size := by simpa using h1
      have h3' : j < q.size := by simpa using h3
      have := ss i j (Nat.le_of_lt hij) (by omega)
      unfold kp at this
      rw [Array.getD_eq_getD_getElem?, Array.getD_eq_getD_getElem?, Array.getElem?_eq_getElem h1', Array.getElem?_eq_getElem h3'] at this
      simpa using this
end
end Mine
end
section
open PySem PySem.W PySem.W.X PySem.Calls PyProof.Rows Builtin Builtin.Slots
set_option maxRecDepth 100000
namespace Mine
section
variable {w : World} {A : Around} {s : Shared} {E : Value → Shared → Prop} {h₀ : Heap} {C L p f0 f1 a kS : Addr} {K : Frag} {vs : List Value} {ns : List Int} {e1 : Nat} {n : Nat} {P' : PySem.Fin → Shared → Prop}
theorem rest_k (T : TopOk h₀) (v : KV h₀ C L p f0 f1 K) (hc : h₀.IsCell (L + 1) (some (.ref 28))) (hA : Ok A (n + 2)) (k₀ : ∀ b o, h₀.get? b = some o → s.heap.get? b = some o) (a0 : h₀.get? a = none) (kS0 : h₀.get? kS = none) (hka : kS ≠ a)
    (hkS : s.heap.get? kS = some (seqObj "list" #[] 0)) (ha : s.heap.get? a = some (seqObj "list" #[] e1)) (hi : IntsAre vs ns) (h64 : ns.length < 64)
    (h : ∀ h' tk out c ns', (∀ b o, h₀.get? b = some o → h'.get? b = some o) → h'.get? a = some (seqObj "list" out c) → IntsAre out.toList ns' → ns'.Perm ns → ns'.Pairwise (· ≤ ·) → P' (.done (.ret .none)) { s with heap := h', toks := tk }) :
    wpAny (MM w) A (ksk_rest a (.ref C) false vs.toArray e1 (.ref kS)) P' E s := by
  have hl := hi.length
  unfold ksk_rest
  refine wpAny_bind (wpAny_rule ?_)
  first
    | rw [List.forIn_toArray]
    | (rw [← Array.forIn_toList]; simp only [List.toList_toArray])
    | rw [← Array.forIn_toList]
  refine wpAny_bind (ksk_fold (fun i s' => ∃ h' tk kA e, s' = { s with heap := h', toks := tk } ∧ (∀ b o, h₀.get? b = some o → h'.get? b = some o) ∧ h'.get? kS = some (seqObj "list" kA e) ∧ h'.get? a = some (seqObj "list" #[] e1) ∧ Insts C h' kA.toList (vs.take i)) vs 0 s
    ⟨s.heap, s.toks, #[], 0, rfl, k₀, hkS, ha, ⟨rfl, fun j v e => by simp at e⟩⟩ ?step ?done)
  case step =>
    rintro j x s' hx ⟨h', tk, kA, e, rfl, k', nk, na, hI⟩
    simp only [Nat.zero_add] at hI ⊢
    have hj : j < vs.length := (List.getElem?_eq_some_iff.mp hx).1
    have hz : kA.size ≤ vs.length := by
      have h1 := hI.1
      rw [Array.length_toList, List.length_take] at h1
      omega
    refine wpAny_bind (wpAny_attempt (mk_c (T.keep (KeepH.of k')) (v.keeps k') hA fun y dy s'' ks hy0 hy hdy => ?_))
    obtain ⟨g, tk2, rfl, kg⟩ := ks
    have kg : ∀ b o, h'.get? b = some o → g.get? b = some o := kg
    have hy : g.get? y = some (kinst C dy x) := hy
    have hdy : g.get? dy = some emptyDict := hdy
    dsimp only
    have nk2 := kg _ _ nk
    have s1 := Heap.SameBut.update g kS (Obj.mapSeq (·.push (.ref y)))
    obtain ⟨c2, hc2⟩ : ∃ c2, (g.update kS (Obj.mapSeq (·.push (.ref y)))).get? kS = some (seqObj "list" (kA.push (.ref y)) c2) := ⟨_, get?_update_seq nk2 (·.push (.ref y))⟩
    have ek : vs.take (j + 1) = vs.take j ++ [x] := by rw [List.take_add_one, hx]; simp
    have ea : (kA.push (Value.ref y)).toList = kA.toList ++ [Value.ref y] := by simp
    refine wpAny_bind (listUpdate_at nk2 rfl ?_ (by rw [sizeLine_eq]; omega) (Nat.le_trans (Nat.le_of_eq (Array.size_push ..)) (by rw [sizeLine_eq]; omega)))
    have nl : ∀ b o, (∀ items n, o ≠ seqObj "list" items n) → g.get? b = some o → (g.update kS (Obj.mapSeq (·.push (.ref y)))).get? b = some o := fun b o ho e => (s1.2 b (fun q => by rw [q, nk2] at e; exact ho _ _ (Option.some.inj e).symm)).trans e
    refine wpAny_pure ⟨rfl, _, _, kA.push (.ref y), c2, rfl, fun b o e => ?_, hc2, (s1.2 a hka.symm).trans (kg _ _ na), ?_⟩
    · exact (s1.2 b (fun q => by rw [q, kS0] at e; cases e)).trans (kg _ _ (k' _ _ e))
    · rw [ea, ek]
      exact ((hI.keep fun b o _ e => kg b o e).snoc hy hdy).keep nl
  case done =>
    rintro s' ⟨h', tk, kA, e, rfl, k', nk, na, hI⟩
    have hI' : Insts C h' kA.toList vs := by
      rw [List.take_of_length_le (by omega)] at hI
      exact hI
    refine wpAny_bind (listItems_at nk rfl ?_)
    exact end_k (s := { s with heap := h', toks := tk }) T v hc hA k' a0 kS0 hka nk na hI' hi h64 fun h3 tk3 out c ns' k3 a3 i3 p3 o3 => h h3 tk3 out c ns' k3 a3 i3 p3 o3
theorem tree_k {e0 : Nat} (T : TopOk h₀) (v : KV h₀ C L p f0 f1 K) (hc : h₀.IsCell (L + 1) (some (.ref 28))) (hA : Ok A (n + 2)) (k₀ : ∀ b o, h₀.get? b = some o → s.heap.get? b = some o) (a0 : h₀.get? a = none)
    (ho : s.heap.get? a = some (seqObj "list" vs.toArray e0)) (hi : IntsAre vs ns) (h64 : ns.length < 64)
    (h : ∀ h' tk out c ns', (∀ b o, h₀.get? b = some o → h'.get? b = some o) → h'.get? a = some (seqObj "list" out c) → IntsAre out.toList ns' → ns'.Perm ns → ns'.Pairwise (· ≤ ·) → P' (.done (.ret .none)) { s with heap := h', toks := tk }) :
    wpAny (MM w) A (ksk_tree a (.ref C) false) P' E s := by
  have hl := hi.length
  have ha : a < s.heap.objs.size := Heap.lt_size ho
  have s1 := Heap.SameBut.update s.heap a (Obj.mapSeq fun _ => (#[] : Array Value))
  obtain ⟨e1, ho1⟩ : ∃ e1, (s.heap.update a (Obj.mapSeq fun _ => (#[] : Array Value))).get? a = some (seqObj "list" #[] e1) := ⟨_, get?_update_seq ho fun _ => #[]⟩
  have hkS : ((s.heap.update a (Obj.mapSeq fun _ => (#[] : Array Value))).push (seqObj "tuple" vs.toArray 0)).objs.size = s.heap.objs.size + 1 := by rw [size_push', Heap.size_update]
  unfold ksk_tree
  refine wpAny_bind (listItems_at ho rfl ?_)
  refine wpAny_bind (listUpdate_at ho rfl ?_ (by rw [List.size_toArray, sizeLine_eq]; omega) (Nat.zero_le _))
  refine wpAny_bind (seqEpoch_at ho1 rfl ?_)
  refine wpAny_bind (wpAny_newTuple ?_ (by show vs.length ≤ _; rw [sizeLine_eq]; omega))
  refine wpAny_bind (wpAny_newList ?_ (Nat.zero_le _))
  refine wpAny_holding ?_
  have k1 : ∀ b o, h₀.get? b = some o → (s.heap.update a (Obj.mapSeq fun _ => (#[] : Array Value))).get? b = some o := fun b o e => (s1.2 b (fun q => by rw [q, a0] at e; cases e)).trans (k₀ b o e)
  refine rest_k (s := { s with heap := ((s.heap.update a (Obj.mapSeq fun _ => (#[] : Array Value))).push (seqObj "tuple" vs.toArray 0)).push (seqObj "list" #[] 0) }) (kS := ((s.heap.update a (Obj.mapSeq fun _ => (#[] : Array Value))).push (seqObj "tuple" vs.toArray 0)).objs.size)
    T v hc hA (fun b o e => Heap.get?_push_of_some _ (Heap.get?_push_of_some _ (k1 b o e))) a0 ?_ (by rw [hkS]; exact Nat.ne_of_gt (Nat.lt_succ_of_lt ha)) (Heap.get?_push_size _ rfl) (Heap.get?_push_of_some _ (Heap.get?_push_of_some _ ho1)) hi h64 h
  cases q : h₀.get? ((s.heap.update a (Obj.mapSeq fun _ => (#[] : Array Value))).push (seqObj "tuple" vs.toArray 0)).objs.size with
  | none => rfl
  | some o =>
    have := Heap.lt_size (k₀ _ _ q)
    rw [hkS] at this
    exact absurd this (Nat.not_lt.mpr (Nat.le_succ _))
theorem sortedK_c {l : Addr} {Q : Value → Shared → Prop} (T : TopOk s.heap) (v : KV s.heap C L p f0 f1 K) (hc : s.heap.IsCell (L + 1) (some (.ref 28))) (hA : Ok A (n + 4)) (hl : IsInts s.heap l ns) (h64 : ns.length < 64)
    (h : ∀ D s' ns', Keeps s s' → s.heap.get? D = none → IsInts s'.heap D ns' → ns'.Perm ns → ns'.Pairwise (· ≤ ·) → Q (.ref D) s') :
    wpAny (MM w) A (call (.builtin "sorted") [.ref l] [(Str.ofString "key", .ref C)]) Q E s := by
  obtain ⟨vs, hl', hi⟩ := hl.list
  have hlen := hi.length
  refine call_function_entry_kw kind_sorted plain_sorted entry_sorted (ksk_s1 _ _) ?_
  unfold Builtin.«sorted»
  refine wpAny_bind (m := checkCount "sorted" 1 1 _) (wpAny_pure ?_)
  refine wpAny_bind (collect_list hl' ?_ (by rw [sizeLine_eq]; omega))
  refine wpAny_bind (wpAny_newList ?_ (by rw [sizeLine_eq]; omega))
  have hsz : ((s.heap.push (seqObj "list" #[] 0)).update s.heap.objs.size (Obj.mapSeq (· ++ vs.toArray))).objs.size = s.heap.objs.size + 1 := by
    rw [Heap.size_update, size_push']
  have hoL : (((s.heap.push (seqObj "list" #[] 0)).update s.heap.objs.size (Obj.mapSeq (· ++ vs.toArray))).push (seqObj "list" vs.toArray 0)).get? (s.heap.objs.size + 1) = some (seqObj "list" vs.toArray 0) := by
    rw [← hsz]; exact Heap.get?_push_size _ rfl
  have keep : ∀ b o, s.heap.get? b = some o → (((s.heap.push (seqObj "list" #[] 0)).update s.heap.objs.size (Obj.mapSeq (· ++ vs.toArray))).push (seqObj "list" vs.toArray 0)).get? b = some o := fun b o q => by
    have hlt : b < s.heap.objs.size := Heap.lt_size q
    rw [Heap.get?_push_ne _ _ _ (by rw [hsz]; exact Nat.ne_of_lt (Nat.lt_succ_of_lt hlt)), Heap.get?_update_ne _ _ _ _ (Nat.ne_of_lt hlt), Heap.get?_push_ne _ _ _ (Nat.ne_of_lt hlt)]
    exact q
  show wpAny _ _ _ _ _ { s with heap := ((s.heap.push (seqObj "list" #[] 0)).update s.heap.objs.size (Obj.mapSeq (· ++ vs.toArray))).push (seqObj "list" vs.toArray 0) }
  rw [hsz]
  have a0 : s.heap.get? (s.heap.objs.size + 1) = none := Heap.get?_none_of_le (Nat.le_succ _)
  refine wpAny_bind (wpAny_holding (wpAny_call_entry_kw slot_list_sort ⟨_, hoL, rfl⟩ entry_list_sort ?body (ksk_l1 _ _)))
  show wpAny (MM w) A.in1.in1 (Builtin.«list.sort» ⟨[.ref (s.heap.objs.size + 1)], [(Str.ofString "key", .ref C)]⟩) _ _ _
  rw [ksk_t1]
  have hA' : Ok A.in1.in1 (n + 2) := hA.in1.in1
  refine tree_k (s := { s with heap := ((s.heap.push (seqObj "list" #[] 0)).update s.heap.objs.size (Obj.mapSeq (· ++ vs.toArray))).push (seqObj "list" vs.toArray 0) }) T v hc hA' keep a0 hoL hi h64 fun h' tk out c ns' k' ha' hi' hp hs => ⟨_, rfl, ?_⟩
  refine wpAny_pure ⟨_, rfl, h _ _ ns' ⟨h', tk, rfl, k'⟩ a0 ⟨out.toList, c, ?_, hi'⟩ hp hs⟩
  simpa using ha'
end
end Mine
end
section
open PySem PySem.W PySem.W.X PySem.Calls PyProof.Rows Builtin Builtin.Slots
set_option maxRecDepth 100000
namespace Mine
def lawComp : Expr := match (fnBody 20).getLast? with | some (.Return (some (.Compare l _ _ _)) _) => l | _ => .Name "x" default
def lawElt : Expr := match lawComp with | .ListComp e _ _ _ => e | _ => .Name "x" default
def lawIter : Expr := match lawComp with | .ListComp _ [⟨_, i, _, _⟩] _ _ => i | _ => .Name "x" default
def lawPx : Pos := match lawComp with | .ListComp _ [⟨.Name _ p, _, _, _⟩] _ _ => p | _ => default
def lawCS : Scope := match lawComp with | .ListComp _ _ s _ => s | _ => default
def lawCPos : Pos := match lawComp with | .ListComp _ _ _ p => p | _ => default
theorem lawComp_eq : lawComp = .ListComp lawElt [⟨.Name "bag" lawPx, lawIter, [], 0⟩] lawCS lawCPos := rfl
abbrev lawEnv (L : Addr) : Env := envK 20 108 109 L
theorem KT.trans {h h' h'' : Heap} (a : KT h h') (b : KT h' h'') : KT h h'' := fun x o ho e => b x o ho (a x o ho e)
theorem KT.of {h h' : Heap} (k : ∀ b o, h.get? b = some o → h'.get? b = some o) : KT h h' := fun b o _ e => k b o e
theorem KT.ints {h h' : Heap} (k : KT h h') {l : Addr} {ns : List Int} (x : IsInts h l ns) : IsInts h' l ns := by
  obtain ⟨vs, n, e, i⟩ := x
  exact ⟨vs, n, k _ _ (fun ps q => by have := congrArg Obj.data q; cases this) e, i⟩
theorem KT.ns {h h' : Heap} (k : KT h h') {a : Addr} {m : Str → Option Value} (n : h.Ns a m) : h'.Ns a m := by
  obtain ⟨o, es, ep, e, d, r⟩ := n
  exact ⟨o, es, ep, k _ _ (fun ps q => by rw [q] at d; cases d) e, d, r⟩
section
variable {w : World} {A : Around} {s : Shared} {Q : Value → Shared → Prop} {E : Value → Shared → Prop}
set_option maxHeartbeats 1000000 in
theorem elt_c {L C l : Addr} {m : Str → Option Value} {ns : List Int} {n : Nat} (T : TopOk s.heap) (x : KOk s.heap) (hA : Ok A (n + 4)) (hns : s.heap.Ns C m) (hm : m "bag" = some (.ref l)) (hl : IsInts s.heap l ns) (h64 : ns.length < 64)
    (h : ∀ D h' tk ns', KT s.heap h' → Lo s.heap h' → TopOk h' → KOk h' → (∀ b o, (∀ ps, o ≠ tabObj ps) → s.heap.get? b = some o → b ≠ D) → IsInts h' D ns' → ns'.Perm ns → ns'.Pairwise (· ≤ ·) → Q (.ref D) { s with heap := h', toks := tk }) :
    wpAny (MM w) A (eval lawElt (compEnvC lawCS [] C (lawEnv L))) Q E s := by
  refine wpAny_Call_Name_kw (nameBu T rfl (callWith_kw (arg (compL hns hm (argEnd (kws_cons ?_))))))
  refine callFn T rfl (arg (nameGl T rfl (argEnd ⟨T, cmp_key_c (n := n + 3) T x hA fun K L' h₁ t₁ kt lo T₁ x₁ iK cell c0 => kws_nil ?_⟩)))
  obtain ⟨p, f0, f1, Fg, v⟩ := iK.view
  show wpAny (MM w) A (call (.builtin "sorted") [.ref l] [(Str.ofString "key", .ref K)]) Q E _
  refine sortedK_c (n := n) (s := { s with heap := h₁, toks := t₁ }) T₁ v cell hA (kt.ints hl) h64 fun D s₂ ns' k₂ D0 hD hp hs => ?_
  obtain ⟨h₂, t₂, rfl, kk⟩ := k₂
  have kk : ∀ b o, h₁.get? b = some o → h₂.get? b = some o := kk
  refine h D h₂ t₂ ns' (kt.trans (KT.of kk)) (fun b o hb h30 e => kk _ _ (lo b o hb h30 e)) (T₁.keep (KeepH.of kk)) (x₁.keeps kk) (fun b o ho e q => ?_) hD hp hs
  have e' := kt b o ho e
  have D0' : h₁.get? D = none := D0
  rw [q, D0'] at e'; cases e'
end
end Mine
end
section
open PySem PySem.W PySem.W.X PySem.Calls PyProof.Rows Builtin Builtin.Slots
set_option maxRecDepth 100000
namespace Mine
/-- the objects that the class's code and tables hang on -/
def Tied (o : Obj) : Prop := (o.cls = .type "code" ∧ ∃ vs, o.data = .fields vs) ∨ (∃ ps, o = tabObj ps) ∨ (∃ vs q t, o.data = .fields vs ∧ vs[1]? = some (.str q t)) ∨ o.data = .plain
def T77 (h : Heap) : Prop := ∃ ps, h.get? 77 = some (tabObj ps) ∧ TriplesOk ps.toList
theorem rec_tied {h h' : Heap} (t77 : T77 h) (hst : ∀ b o, b ≠ 77 → Tied o → h.get? b = some o → h'.get? b = some o) {v : Value} {q : Str} (r : h.CodeRec v q) : h'.CodeRec v q := by
  obtain ⟨ps, e, ht⟩ := t77
  obtain ⟨c, o, vs, t, e2, ho, hd, hv⟩ := r
  refine ⟨c, o, vs, t, e2, hst _ _ (fun z => ?_) (.inr (.inr (.inl ⟨vs, q, t, hd, hv⟩))) ho, hd, hv⟩
  rw [z, e] at ho
  cases ho
  have hd' : ps = vs := Data.fields.inj hd
  subst hd'
  rw [← Array.getElem?_toList] at hv
  match hl : ps.toList, ht with
  | [], _ => rw [hl] at hv; cases hv
  | .int _ _ :: .int _ _ :: _ :: _, _ => rw [hl] at hv; cases hv
theorem head_tied {h h' : Heap} (t77 : T77 h) (hst : ∀ b o, b ≠ 77 → Tied o → h.get? b = some o → h'.get? b = some o) {c P : Addr} (x : CodeHd h c P) : CodeHd h' c P := by
  obtain ⟨ps, e, ht⟩ := t77
  obtain ⟨o, vs, file, tf, flags, tg, inF, text, tt, e1, hcc, hd, r⟩ := x
  refine ⟨o, vs, file, tf, flags, tg, inF, text, tt, hst _ _ (fun z => ?_) (.inl ⟨hcc, vs, hd⟩) e1, hcc, hd, r⟩
  rw [z, e] at e1; cases e1; cases hcc
theorem mod_tied {h h' : Heap} (t77 : T77 h) (hst : ∀ b o, b ≠ 77 → Tied o → h.get? b = some o → h'.get? b = some o) {mg : Str → Option Value} {P : Addr} (x : h.BuiltinsAt mg P) : h'.BuiltinsAt mg P := by
  obtain ⟨ps, e, ht⟩ := t77
  obtain ⟨bm, ob, g1, g2, g3, g4, g5, g6, g7, g8⟩ := x
  refine ⟨bm, ob, g1, g2, g3, g4, hst _ _ (fun z => ?_) (.inr (.inr (.inr g8))) g5, g6, g7, g8⟩
  rw [z, e] at g5; cases g5; cases g8
theorem KTab.tied {h h' : Heap} {ck tk : Addr} (b : KTab h ck tk) (c : 110 ≤ tk) (t77 : T77 h) (hst : ∀ b o, b ≠ 77 → Tied o → h.get? b = some o → h'.get? b = some o) (low : ∀ b o, b < 110 → b ≠ 77 → h.get? b = some o → h'.get? b = some o) : KTab h' ck tk := by
  obtain ⟨ps', et', ht', hf'⟩ := b.tab
  obtain ⟨mg', n', g'⟩ := b.glb
  exact ⟨head_tied t77 hst b.code, ⟨ps', hst _ _ (Nat.ne_of_gt (Nat.lt_of_lt_of_le (by decide) c)) (.inr (.inl ⟨ps', rfl⟩)) et', ht', fun i hi => (hf' i hi).imp id fun ⟨c', h1, h2⟩ => ⟨c', h1, rec_tied t77 hst h2⟩⟩,
    ⟨mg', ns_keep (fun o e => low _ _ (by decide) (by decide) e) n', mod_tied t77 hst g'⟩, b.ne⟩
theorem KOk.tied {h h' : Heap} (x : KOk h) (t77 : T77 h) (hst : ∀ b o, b ≠ 77 → Tied o → h.get? b = some o → h'.get? b = some o) (low : ∀ b o, b < 110 → b ≠ 77 → h.get? b = some o → h'.get? b = some o) : KOk h' := by
  obtain ⟨ps, et, htp, hc⟩ := x.tab
  obtain ⟨mg, n, g, nm, hob, gg⟩ := x.glb
  obtain ⟨mb, nb, rb⟩ := x.blt
  obtain ⟨o2, e2, r2⟩ := x.stat
  refine ⟨head_tied t77 hst x.code, ⟨ps, low _ _ (by decide) (by decide) et, htp, hc.imp id fun ⟨ck, tk, a, b, c⟩ => ⟨ck, tk, a, b.tied c t77 hst low, c⟩⟩, ⟨mg, ns_keep (fun o e => low _ _ (by decide) (by decide) e) n, mod_tied t77 hst g, nm, hob, fun tk' q => mod_tied t77 hst (gg tk' q)⟩,
    ⟨mb, ns_keep (fun o e => low _ _ (by decide) (by decide) e) nb, rb⟩, ⟨o2, low _ _ (by decide) (by decide) e2, r2⟩, ?_, x.big.imp fun o e => low _ _ (by decide) (by decide) e⟩
  obtain ⟨mc, nc, r⟩ := x.lim
  exact ⟨mc, ns_keep (fun o e => low _ _ (by decide) (by decide) e) nc, r⟩

structure BaseOk (H0 h : Heap) : Prop where
  kt : KT H0 h
  lo : Lo H0 h
  top : TopOk h
  kok : KOk h
  t77 : T77 h
theorem BaseOk.but {H0 h h' : Heap} {X : Addr} {oX : Obj} (B : BaseOk H0 h) (x0 : H0.get? X = none) (hX : 110 ≤ X) (e : h.get? X = some oX) (nt : ¬ Tied oX) (k : Heap.ExtBut X h h') : BaseOk H0 h' := by
  have ne : ∀ {b : Addr}, b < 110 → b ≠ X := fun hb => Nat.ne_of_lt (Nat.lt_of_lt_of_le hb hX)
  have hst : ∀ b o, b ≠ 77 → Tied o → h.get? b = some o → h'.get? b = some o := fun b o _ ht e' => k b o (fun z => by rw [z, e] at e'; cases e'; exact nt ht) e'
  refine ⟨fun b o ho e' => k b o (fun z => by rw [z, x0] at e'; cases e') (B.kt b o ho e'), fun b o hb h30 e' => k b o (ne hb) (B.lo b o hb h30 e'), B.top.low fun b o hb _ _ e' => k b o (ne hb) e', B.kok.tied B.t77 hst fun b o hb _ e' => k b o (ne hb) e', ?_⟩
  obtain ⟨ps, e7, r⟩ := B.t77
  exact ⟨ps, k _ _ (ne (by decide)) e7, r⟩
theorem BaseOk.keeps {H0 h h' : Heap} (B : BaseOk H0 h) (k : ∀ b o, h.get? b = some o → h'.get? b = some o) : BaseOk H0 h' :=
  ⟨B.kt.trans (KT.of k), fun b o hb h30 e => k _ _ (B.lo b o hb h30 e), B.top.keep (KeepH.of k), B.kok.keeps k, by obtain ⟨ps, e, r⟩ := B.t77; exact ⟨ps, k _ _ e, r⟩⟩
theorem BaseOk.elt {H0 h h' : Heap} (B : BaseOk H0 h) (kt : KT h h') (lo : Lo h h') (T : TopOk h') (x : KOk h') : BaseOk H0 h' :=
  ⟨B.kt.trans kt, fun b o hb h30 e => lo _ _ hb h30 (B.lo b o hb h30 e), T, x, by obtain ⟨ps, e, r⟩ := B.t77; exact ⟨ps, lo _ _ (by decide) (by decide) e, r⟩⟩
theorem dict_free {o : Obj} {es n} (h : o.data = .dict es n) : ¬ Tied o := by
  rintro (⟨_, vs, q⟩ | ⟨ps, rfl⟩ | ⟨vs, q, t, q1, _⟩ | q)
  · rw [h] at q; cases q
  · cases h
  · rw [h] at q1; cases q1
  · rw [h] at q; cases q
theorem seq_free {o : Obj} {es n} (h : o.data = .seq es n) : ¬ Tied o := by
  rintro (⟨_, vs, q⟩ | ⟨ps, rfl⟩ | ⟨vs, q, t, q1, _⟩ | q)
  · rw [h] at q; cases q
  · cases h
  · rw [h] at q1; cases q1
  · rw [h] at q; cases q
theorem titer_free {o : Obj} {t : Addr} {i : Int} (hc : o.cls = .type "tuple_iterator") (h : o.data = .fields #[.ref t, .int i 0]) : ¬ Tied o := by
  rintro (⟨q, _⟩ | ⟨ps, rfl⟩ | ⟨vs, q, t, q1, q2⟩ | q)
  · rw [hc] at q; simp at q
  · cases hc
  · rw [h] at q1; cases q1; cases q2
  · rw [h] at q; cases q

def BagAt (h : Heap) (b : List Int) (v : Value) : Prop := ∃ a, v = .ref a ∧ IsInts h a b
def SortedFor (h : Heap) (X : Addr) (b : List Int) (y : Value) : Prop := ∃ D ns', y = .ref D ∧ D ≠ X ∧ IsInts h D ns' ∧ ns'.Perm b ∧ ns'.Pairwise (· ≤ ·)
theorem SortedFor.keep {h h' : Heap} {X : Addr} {b : List Int} {y : Value} (x : SortedFor h X b y) (k : ∀ l o, l ≠ X → (∃ items n, o.data = .seq items n) → h.get? l = some o → h'.get? l = some o) : SortedFor h' X b y := by
  obtain ⟨D, ns', rfl, ne, ⟨vs, n, e, i⟩, r⟩ := x
  exact ⟨D, ns', rfl, ne, ⟨vs, n, k _ _ ne ⟨_, _, rfl⟩ e, i⟩, r⟩
theorem paired_imp {α β : Type} {F G : α → β → Prop} (f : ∀ a b, F a b → G a b) : ∀ {l : List α} {r : List β}, Paired F l r → Paired G l r
  | _, _, .nil => .nil
  | _, _, .cons h t => .cons (f _ _ h) (paired_imp f t)
theorem paired_at {α β : Type} {F : α → β → Prop} : ∀ {l : List α} {r : List β}, Paired F l r → ∀ {i : Nat} {b : β}, r[i]? = some b → ∃ a, l[i]? = some a ∧ F a b
  | _, _, .nil, i, b, h => by cases h
  | a :: _, _, .cons h t, 0, b, e => by cases e; exact ⟨a, rfl, h⟩
  | _ :: _, _, .cons h t, i + 1, b, e => paired_at t (i := i) (by simpa using e)

section
variable {w : World} {A : Around} {s : Shared} {Q : Value → Shared → Prop} {E : Value → Shared → Prop}
set_option maxHeartbeats 2000000 in
theorem comp_c {L : Addr} {bs : List (List Int)} {vs : List Value} {n : Nat} (hA : Ok A (n + 4)) (h64 : ∀ b ∈ bs, b.length < 64) (h3 : bs.length ≤ 3)
    (h : wpAny (MM w) A (eval lawIter (lawEnv L)) (fun v s₁ => ∃ t, v = .ref t ∧ s₁.heap.IsTuple t vs.toArray ∧ BaseOk s₁.heap s₁.heap ∧ Paired (BagAt s₁.heap) bs vs ∧
      (∀ D h' tk ys, BaseOk s₁.heap h' → s₁.heap.get? D = none → h'.IsList D ys → Paired (SortedFor h' D) bs ys.toList → Q (.ref D) { s₁ with heap := h', toks := tk })) E s) :
    wpAny (MM w) A (eval lawComp (lawEnv L)) Q E s := by
  rw [lawComp_eq, eval_ListComp]
  refine wpAny_comprehension_free (use := none) (cl := []) rfl (fun _ => rfl) rfl rfl (by decide) (wpAny_mono h (fun v s₁ h₁ => ?_) fun _ _ e => e)
  obtain ⟨t, rfl, ht, B, hb, hQ⟩ := h₁
  have h110 : 110 ≤ s₁.heap.objs.size := B.top.size
  refine wpAny_pyIter_tuple ht ?_
  obtain ⟨hI, hIe⟩ : ∃ I : Addr, I = s₁.heap.objs.size := ⟨_, rfl⟩
  have hit₂ : (s₁.heap.push { cls := .type "tuple_iterator", data := .fields #[.ref t, .int 0 0] }).IsTupleIter s₁.heap.objs.size t 0 := ⟨_, Heap.get?_push_size _ rfl, rfl, rfl⟩
  have k₂ : ∀ b o, s₁.heap.get? b = some o → (s₁.heap.push { cls := .type "tuple_iterator", data := .fields #[.ref t, .int 0 0] }).get? b = some o := fun b o e => Heap.get?_push_of_some _ e
  have sz₂ : (s₁.heap.push { cls := .type "tuple_iterator", data := .fields #[.ref t, .int 0 0] }).objs.size = s₁.heap.objs.size + 1 := Heap.size_push ..
  generalize s₁.heap.push { cls := .type "tuple_iterator", data := .fields #[.ref t, .int 0 0] } = H₂ at hit₂ k₂ sz₂ ⊢
  refine wpAny_newObj_type (wpAny_newFunctionEnv (scope := lawCS) (by decide) (by intro y hy; simp at hy) (fun h₁ hns₁ hsb₁ => ?_) rfl)
  dsimp only at hns₁ hsb₁ ⊢
  generalize hH3 : H₂.push { cls := .type "list", dict := none, data := .seq ([] : List Value).toArray } = H₃ at hns₁ hsb₁ ⊢
  have sz₃ : H₃.objs.size = s₁.heap.objs.size + 2 := by rw [← hH3, Heap.size_push, sz₂]
  have k₃ : ∀ b o, H₂.get? b = some o → H₃.get? b = some o := fun b o e => by rw [← hH3]; exact Heap.get?_push_of_some _ e
  have k₄ : ∀ b o, H₃.get? b = some o → h₁.get? b = some o := fun b o e => hsb₁.extBut b o (Nat.ne_of_lt (Heap.lt_size e)) (Heap.get?_push_of_some _ e)
  have acc₁ : h₁.IsList H₂.objs.size #[] := by
    refine ⟨_, k₄ _ _ (by rw [← hH3]; exact Heap.get?_push_size _ rfl), rfl, _, rfl⟩
  have hDI : H₂.objs.size ≠ s₁.heap.objs.size := by rw [sz₂]; exact Nat.succ_ne_self _
  have hCI : H₃.objs.size ≠ s₁.heap.objs.size := by rw [sz₃]; omega
  have hCD : H₃.objs.size ≠ H₂.objs.size := by rw [sz₃, sz₂]; omega
  have I0 : s₁.heap.get? s₁.heap.objs.size = none := Heap.get?_none_of_le (Nat.le_refl _)
  have D0 : s₁.heap.get? H₂.objs.size = none := Heap.get?_none_of_le (by rw [sz₂]; exact Nat.le_succ _)
  have C0 : s₁.heap.get? H₃.objs.size = none := Heap.get?_none_of_le (by rw [sz₃]; omega)
  have D110 : 110 ≤ H₂.objs.size := by rw [sz₂]; exact Nat.le_succ_of_le h110
  have C110 : 110 ≤ H₃.objs.size := by rw [sz₃]; exact Nat.le_trans h110 (Nat.le_add_right _ _)
  have hlb := hb.length
  have loop : ∀ s₃ : Shared, s₃ = { s₁ with heap := h₁, toks := s₁.toks + ([] : List (Str × Value)).length } →
      codeAny (MM w) A (.compLoop (.ListComp lawElt [⟨.Name "bag" lawPx, lawIter, [], 0⟩] lawCS lawCPos) 0 (.ref s₁.heap.objs.size) (.ref H₂.objs.size) (compEnvC lawCS [] H₃.objs.size (lawEnv L)))
        (compPost (MM w) A E none Q (.ref H₂.objs.size) H₃.objs.size) s₃ := by
    rintro s₃ rfl
    obtain ⟨Inv, hInv⟩ : ∃ Inv : Nat → Shared → Prop, ∀ j s', Inv j s' ↔ ∃ h' tk m' ys i, s' = { s₁ with heap := h', toks := tk } ∧ h'.IsTupleIter s₁.heap.objs.size t i ∧ h'.IsTuple t vs.toArray ∧ h'.IsList H₂.objs.size ys ∧ h'.Ns H₃.objs.size m' ∧
      Paired (SortedFor h' H₂.objs.size) (bs.take i) ys.toList ∧ i ≤ bs.length ∧ j = bs.length + 1 - i ∧ BaseOk s₁.heap h' := ⟨_, fun _ _ => Iff.rfl⟩
    refine codeAny_compLoop_list Inv ?_ (bs.length + 1) ((hInv _ _).mpr
      ⟨h₁, _, _, #[], 0, rfl, hit₂.at fun o e => k₄ _ _ (k₃ _ _ e), ht.at fun o e => k₄ _ _ (k₃ _ _ (k₂ _ _ e)), acc₁, hns₁, .nil, Nat.zero_le _, rfl, B.keeps fun b o e => k₄ _ _ (k₃ _ _ (k₂ _ _ e))⟩)
    intro j s' hi'
    obtain ⟨H, tk, m', ys, i, rfl, hit, htt, hacc, hn, hF, hi, rfl, B'⟩ := (hInv _ _).mp hi'
    clear hi' hit₂ acc₁ hns₁ hsb₁ k₄ k₃ k₂
    obtain ⟨oi, ei, ci, di⟩ := id hit
    cases hv : vs[i]? with
    | none =>
      have hle : vs.length ≤ i := by simpa using hv
      refine wpAny_pyNext_tuple_end hA.hh hit htt (by simpa using hv) fun h₅ he₅ => ?_
      have B₅ : BaseOk s₁.heap h₅ := B'.but I0 h110 ei (titer_free ci di) he₅
      refine ⟨m', hn.extBut he₅ hCI, fun h₆ hs₆ => ?_⟩
      have n₅ := hn.extBut he₅ hCI
      obtain ⟨on, esn, epn, en, dn, _⟩ := id n₅
      have B₆ : BaseOk s₁.heap h₆ := B₅.but C0 C110 en (dict_free dn) hs₆.extBut
      refine hQ H₂.objs.size h₆ tk ys B₆ D0 ((hacc.extBut he₅ hDI).extBut hs₆.extBut (Ne.symm hCD)) ?_
      rw [List.take_of_length_le (by omega)] at hF
      refine paired_imp (fun b y x => x.keep fun l o _ hs e => ?_) hF
      have e5 := he₅ l o (fun z => by obtain ⟨_, _, hd⟩ := hs; rw [z, ei] at e; cases e; rw [di] at hd; cases hd) e
      exact hs₆.extBut l o (fun z => by obtain ⟨_, _, hd⟩ := hs; rw [z, en] at e5; cases e5; rw [dn] at hd; cases hd) e5
    | some v =>
      have hlt : i < vs.length := (List.getElem?_eq_some_iff.mp hv).1
      obtain ⟨b, hbi, a, rfl, ha⟩ := paired_at hb hv
      have hb64 : b.length < 64 := h64 b (List.mem_of_getElem? hbi)
      refine wpAny_pyNext_tuple_item hit htt (x := .ref a) (by simpa using hv) fun h₅ hit₅ hs₅ => gen2 fun R₁ F₁ hR₁ => ?_
      have B₅ : BaseOk s₁.heap h₅ := B'.but I0 h110 ei (titer_free ci di) hs₅.extBut
      have n₅ := hn.sameBut hs₅ hCI
      obtain ⟨on, esn, epn, en, dn, _⟩ := id n₅
      refine wpAny_assign_Name (wpAny_storeName_local (env := compEnvC lawCS [] H₃.objs.size (lawEnv L)) rfl n₅ (fun h₆ n₆ hs₆ => hR₁ _ _ (gen2 fun R₂ F₂ hR₂ => ?_)) rfl)
      clear hR₁
      have B₆ : BaseOk s₁.heap h₆ := B₅.but C0 C110 en (dict_free dn) hs₆.extBut
      have hs₆ : Heap.SameBut H₃.objs.size h₅ h₆ := hs₆
      have n₆ : h₆.Ns H₃.objs.size _ := n₆
      have hit₆ := hit₅.extBut hs₆.extBut (Ne.symm hCI)
      have tt₅ : h₅.IsTuple t vs.toArray := htt.extBut hs₅.extBut (fun z => by rw [z] at ht; obtain ⟨o, e, _⟩ := ht; rw [I0] at e; cases e)
      have tt₆ : h₆.IsTuple t vs.toArray := tt₅.extBut hs₆.extBut (fun z => by rw [z] at ht; obtain ⟨o, e, _⟩ := ht; rw [C0] at e; cases e)
      have acc₆ := (hacc.extBut hs₅.extBut hDI).extBut hs₆.extBut (Ne.symm hCD)
      refine elt_c (n := n) (s := { s₁ with heap := h₆, toks := tk + 1 }) B₆.top B₆.kok hA n₆ (by simp) (B₆.kt.ints ha) hb64 fun D' h₇ tk₇ ns' kt₇ lo₇ T₇ x₇ fresh₇ hD' hp hso => ?_
      have B₇ : BaseOk s₁.heap h₇ := B₆.elt kt₇ lo₇ T₇ x₇
      obtain ⟨oD, eD, cD, nD, dD⟩ := id acc₆
      have acc₇ : h₇.IsList H₂.objs.size ys := ⟨oD, kt₇ _ _ (fun ps q => by rw [q] at dD; cases dD) eD, cD, nD, dD⟩
      have hne : D' ≠ H₂.objs.size := fun z => fresh₇ _ _ (fun ps q => by rw [q] at dD; cases dD) eD z.symm
      have hys : ys.size ≤ sizeLine := by
        have e1 := hF.length
        have e4 : ys.toList.length = ys.size := by simp
        rw [List.length_take] at e1
        have : (1000 : Nat) ≤ sizeLine := by decide
        omega
      refine hR₂ _ _ (gen2 fun R₃ F₃ hR₃ => ?_)
      clear hR₂
      refine wpAny_list_append (s := { s₁ with heap := h₇, toks := tk₇ }) (hsz := hys) acc₇ fun h₈ acc₈ hs₈ => ?_
      obtain ⟨oD7, eD7, cD7, nD7, dD7⟩ := id acc₇
      have B₈ : BaseOk s₁.heap h₈ := B₇.but D0 D110 eD7 (seq_free dD7) hs₈.extBut
      have hs₈ : Heap.SameBut H₂.objs.size h₇ h₈ := hs₈
      have hit₇ : h₇.IsTupleIter s₁.heap.objs.size t (i + 1) := by
        obtain ⟨o, e, c, d⟩ := hit₆
        exact ⟨o, kt₇ _ _ (fun ps q => by rw [q] at c; cases c) e, c, d⟩
      have tt₇ : h₇.IsTuple t vs.toArray := by
        obtain ⟨o, e, c, d⟩ := tt₆
        exact ⟨o, kt₇ _ _ (fun ps q => by rw [q] at c; cases c) e, c, d⟩
      refine hR₃ _ _ ⟨bs.length + 1 - (i + 1), by omega, (hInv _ _).mpr ⟨h₈, tk₇, _, ys.push (.ref D'), i + 1, rfl, hit₇.extBut hs₈.extBut (Ne.symm hDI), tt₇.extBut hs₈.extBut (fun z => by rw [z] at ht; obtain ⟨o, e, _⟩ := ht; rw [D0] at e; cases e), acc₈, (kt₇.ns n₆).sameBut hs₈ hCD, ?_, by omega, rfl, B₈⟩⟩
      rw [List.take_add_one, hbi, Array.toList_push]
      refine Paired.snoc (paired_imp (fun b y x => x.keep fun l o hl hs e => ?_) hF) ⟨D', ns', rfl, hne, ?_, hp, hso⟩
      · obtain ⟨vs', n', e', i'⟩ := hD'
        exact ⟨vs', n', hs₈.extBut _ _ hne e', i'⟩
      · have e5 := hs₅.extBut l o (fun z => by obtain ⟨_, _, hd⟩ := hs; rw [z, ei] at e; cases e; rw [di] at hd; cases hd) e
        have e6 := hs₆.extBut l o (fun z => by obtain ⟨_, _, hd⟩ := hs; rw [z, en] at e5; cases e5; rw [dn] at hd; cases hd) e5
        exact hs₈.extBut l o hl (kt₇ l o (fun ps q => by obtain ⟨_, _, hd⟩ := hs; rw [q] at hd; cases hd) e6)
  refine codeAny_compStart_list (loop _ rfl) (wpAny_pyIter_tupleiter (i := 0) (s := { s₁ with heap := h₁, toks := s₁.toks + ([] : List (Str × Value)).length }) (hit₂.at fun o e => k₄ _ _ (k₃ _ _ e)) (loop _ rfl))
end
end Mine
end
section
open PySem PySem.W PySem.W.X PySem.Calls PyProof.Rows Builtin Builtin.Slots
set_option maxRecDepth 100000
namespace Mine
theorem LamOk.tied {h h' : Heap} (x : LamOk h) (hst : ∀ b o, b ≠ 77 → Tied o → h.get? b = some o → h'.get? b = some o) (low : ∀ b o, b < 110 → h.get? b = some o → h'.get? b = some o) : LamOk h' := by
  obtain ⟨ps, e, ht, r⟩ := x.tab
  have t77 : T77 h := ⟨ps, e, ht⟩
  obtain ⟨mg, n, g⟩ := x.glb
  exact ⟨head_tied t77 hst x.code, ⟨ps, low _ _ (by decide) e, ht, r.imp id fun ⟨c', h1, h2⟩ => ⟨c', h1, rec_tied t77 hst h2⟩⟩, ⟨mg, ns_keep (fun o e => low _ _ (by decide) e) n, mod_tied t77 hst g⟩⟩
abbrev lawA (L : Addr) : Around := callerA.deeper (lawEnv L)
/-- a state inside the law's own frame; H: the lists of ints at hand -/
structure LS (s₀ : Shared) (L : Addr) (m : Str → Option Value) (H : List (Addr × List Int)) (s : Shared) : Prop where
  ns : s.heap.Ns L m
  top : TopOk s.heap
  lam : LamOk s.heap
  kok : KOk s.heap
  fr : FrOk (lawA L) [L] s.heap
  low : ∀ b o, b < 111 → b ≠ 77 → s₀.heap.get? b = some o → s.heap.get? b = some o
  os : s.os = s₀.os
  bare : AllBare s.gens
  big : 111 ≤ L
  held : ∀ q ∈ H, IsInts s.heap q.1 q.2
section
variable {w : World} {A : Around} {s₀ s s' : Shared} {Q : Value → Shared → Prop} {E : Value → Shared → Prop} {L : Addr} {m : Str → Option Value} {H H' : List (Addr × List Int)} {X : List Addr}
theorem LS.t77 (x : LS s₀ L m H s) : T77 s.heap := by
  obtain ⟨ps, e, ht, _⟩ := x.lam.tab
  exact ⟨ps, e, ht⟩
theorem LS.notL (x : LS s₀ L m H s) {b : Addr} {o : Obj} (e : s.heap.get? b = some o) (hd : ∀ es n, o.data ≠ .dict es n) : b ≠ L := by
  rintro rfl
  obtain ⟨o', es, ep, e1, d1, _⟩ := x.ns
  rw [e] at e1; cases e1
  exact hd _ _ d1
theorem LS.intsL (x : LS s₀ L m H s) {b : Addr} {ns : List Int} (hl : IsInts s.heap b ns) : b ≠ L := by
  obtain ⟨vs, n, e, _⟩ := hl
  exact x.notL e nofun
theorem LS.ints77 (x : LS s₀ L m H s) {b : Addr} {ns : List Int} (hl : IsInts s.heap b ns) : b ≠ 77 := by
  rintro rfl
  obtain ⟨vs, n, e, _⟩ := hl
  obtain ⟨ps, e', _⟩ := x.t77
  have e'' : s.heap.get? 77 = some _ := e
  rw [e'] at e''; cases e''
theorem LS.step (x : LS s₀ L m H s) (c : Ch [L] X s s') (hX : ∀ b ∈ X, b = 77 ∨ (111 ≤ b ∧ ∃ ns, IsInts s.heap b ns)) (hH : ∀ q ∈ H', q ∈ H ∧ q.1 ∉ X) (lam' : LamOk s'.heap) : LS s₀ L m H' s' := by
  have low1 : ∀ b o, b < 111 → b ≠ 77 → s.heap.get? b = some o → s'.heap.get? b = some o := fun b o hb h77 e => c.get (fun hm => by
    rcases hX b hm with z | ⟨z, _⟩
    · exact h77 z
    · exact absurd hb (Nat.not_lt.mpr z)) (fun hm => absurd hb (Nat.not_lt.mpr (by rw [List.mem_singleton.mp hm]; exact x.big))) e
  have hst : ∀ b o, b ≠ 77 → Tied o → s.heap.get? b = some o → s'.heap.get? b = some o := fun b o h77 ht e => c.get (fun hm => by
    rcases hX b hm with z | ⟨_, ns, vs, n, z, _⟩
    · exact h77 z
    · have z' : s.heap.get? b = some _ := z
      rw [e] at z'; cases z'
      exact seq_free rfl ht) (fun hm => by
    obtain ⟨o', es, ep, e1, d1, _⟩ := x.ns
    rw [List.mem_singleton.mp hm, e1] at e; cases e
    exact dict_free d1 ht) e
  have LX : L ∉ X := fun hm => by
    rcases hX L hm with z | ⟨_, ns, z⟩
    · have := x.big; rw [z] at this; exact absurd this (by decide)
    · exact x.intsL z rfl
  refine ⟨ns_slots (fun o e => ?_) x.ns, x.top.low fun b o hb _ h77 e => low1 b o (Nat.lt_succ_of_lt hb) h77 e, lam', x.kok.tied x.t77 hst fun b o hb h77 e => low1 b o (Nat.lt_succ_of_lt hb) h77 e, x.fr.ch c fun b hb hm => ?_, fun b o hb h77 e => low1 b o hb h77 (x.low b o hb h77 e), ?_, ?_, x.big, fun q hq => ?_⟩
  · obtain ⟨sl, e', _⟩ := c.kf L o LX e
    exact ⟨sl, e'⟩
  · rw [List.mem_singleton.mp hm] at hb
    exact LX hb
  · obtain ⟨_, _, rfl, _⟩ := c
    exact x.os
  · obtain ⟨_, _, rfl, _⟩ := c
    exact x.bare
  · obtain ⟨h1, h2⟩ := hH q hq
    have := x.held q h1
    exact this.ch c h2 (fun hm => x.intsL this (List.mem_singleton.mp hm))
theorem LS.step77 (x : LS s₀ L m H s) (c : Ch [L] [77] s s') (lam' : LamOk s'.heap) : LS s₀ L m H s' :=
  x.step c (fun _ hb => .inl (List.mem_singleton.mp hb)) (fun q hq => ⟨hq, fun hm => x.ints77 (x.held q hq) (List.mem_singleton.mp hm)⟩) lam'
theorem LS.keeps (x : LS s₀ L m H s) (k : Keeps s s') : LS s₀ L m H s' :=
  x.step (X := []) (Ch.of k) (fun _ hb => nomatch hb) (fun q hq => ⟨hq, List.not_mem_nil⟩) (x.lam.st (St.of fun b o e => Keeps.get k e))
theorem LS.gen (x : LS s₀ L m H s) {h' : Heap} {tk : Nat} {G : GenState} (k : ∀ b o, s.heap.get? b = some o → h'.get? b = some o) (hG : G.bare = true) : LS s₀ L m H { s with heap := h', toks := tk, gens := s.gens.push G } := by
  have y := x.keeps (Keeps.mk (t := tk) k)
  refine ⟨y.ns, y.top, y.lam, y.kok, y.fr, y.low, y.os, fun g hg => ?_, y.big, y.held⟩
  rcases Array.mem_push.mp hg with hg | rfl
  · exact x.bare g hg
  · exact hG
theorem LS.add (x : LS s₀ L m H s) {a : Addr} {ns : List Int} (hl : IsInts s.heap a ns) : LS s₀ L m ((a, ns) :: H) s :=
  ⟨x.ns, x.top, x.lam, x.kok, x.fr, x.low, x.os, x.bare, x.big, fun q hq => by
    rcases List.mem_cons.mp hq with rfl | hq
    · exact hl
    · exact x.held q hq⟩
theorem LS.get (x : LS s₀ L m H s) {a : Addr} {ns : List Int} (hm : (a, ns) ∈ H) : IsInts s.heap a ns := x.held _ hm
theorem LS.drop (x : LS s₀ L m H s) (h : ∀ q ∈ H', q ∈ H) : LS s₀ L m H' s :=
  ⟨x.ns, x.top, x.lam, x.kok, x.fr, x.low, x.os, x.bare, x.big, fun q hq => x.held q (h q hq)⟩
theorem LS.locals (x : LS s₀ L m H s) {h' : Heap} {tk : Nat} {m' : Str → Option Value} (k : Heap.ExtBut L s.heap h') (n' : h'.Ns L m') : LS s₀ L m' H { s with heap := h', toks := tk } := by
  have low1 : ∀ b o, b < 111 → s.heap.get? b = some o → h'.get? b = some o := fun b o hb e => k b o (Nat.ne_of_lt (Nat.lt_of_lt_of_le hb x.big)) e
  have hst : ∀ b o, b ≠ 77 → Tied o → s.heap.get? b = some o → h'.get? b = some o := fun b o _ ht e => k b o (fun hm => by
    obtain ⟨o', es, ep, e1, d1, _⟩ := x.ns
    rw [hm, e1] at e; cases e
    exact dict_free d1 ht) e
  exact ⟨n', x.top.low fun b o hb _ _ e => low1 b o (Nat.lt_succ_of_lt hb) e, x.lam.tied hst fun b o hb e => low1 b o (Nat.lt_succ_of_lt hb) e, x.kok.tied x.t77 hst fun b o hb _ e => low1 b o (Nat.lt_succ_of_lt hb) e, x.fr.store n' k, fun b o hb h77 e => low1 b o hb (x.low b o hb h77 e), x.os, x.bare, x.big,
    fun q hq => (x.held q hq).keep1 fun o e => k _ _ (x.intsL (x.held q hq)) e⟩
/-- after a call of the difference: the two copies are let go -/
theorem LS.uld {C1 C2 : Addr} {xs ys : List Int} (x : LS s₀ L m ((C2, ys) :: (C1, xs) :: H) s) (c1b : 111 ≤ C1) (c2b : 111 ≤ C2) (c1n : ∀ q ∈ H, q.1 ≠ C1) (c2n : ∀ q ∈ (C1, xs) :: H, q.1 ≠ C2) (c : Ch [L] [C1, C2] s s') : LS s₀ L m H s' := by
  have cX : ∀ b ∈ [C1, C2], b = 77 ∨ (111 ≤ b ∧ ∃ ns, IsInts s.heap b ns) := fun b hb => by
    rcases List.mem_cons.mp hb with rfl | hb
    · exact .inr ⟨c1b, _, x.get (.tail _ (.head _))⟩
    · rw [List.mem_singleton.mp hb]; exact .inr ⟨c2b, _, x.get (.head _)⟩
  have big : ∀ {b}, b ∈ [C1, C2] → 111 ≤ b := fun hm => by
    rcases List.mem_cons.mp hm with rfl | hm
    · exact c1b
    · rw [List.mem_singleton.mp hm]; exact c2b
  have low : ∀ b o, b < 110 → s.heap.get? b = some o → s'.heap.get? b = some o := fun b o hb e => c.get (fun hm => absurd (Nat.lt_succ_of_lt hb) (Nat.not_lt.mpr (big hm))) (fun hm => by rw [List.mem_singleton.mp hm] at hb; exact absurd (Nat.lt_succ_of_lt hb) (Nat.not_lt.mpr x.big)) e
  have hst : ∀ b o, b ≠ 77 → Tied o → s.heap.get? b = some o → s'.heap.get? b = some o := fun b o h77 ht e => c.get (fun hm => by
    rcases cX b hm with z | ⟨_, ns, vs, n, z, _⟩
    · exact h77 z
    · have z' : s.heap.get? b = some _ := z
      rw [e] at z'; cases z'
      exact seq_free rfl ht) (fun hm => by
    obtain ⟨o', es, ep, e1, d1, _⟩ := x.ns
    rw [List.mem_singleton.mp hm, e1] at e; cases e
    exact dict_free d1 ht) e
  refine x.step c cX (fun q hq => ⟨.tail _ (.tail _ hq), fun hm => ?_⟩) (x.lam.tied hst low)
  rcases List.mem_cons.mp hm with z | hm
  · exact c1n q hq z
  · exact c2n q (.tail _ hq) (List.mem_singleton.mp hm)
theorem nameLS {n : Str} {pos : Pos} {v : Value} (x : LS s₀ L m H s) (hv : m n = some v) (h : Q v s) (hl : (lawEnv L).kindOf n = some .local := by rfl)
    (hd : (n == ("__debug__" : Str)) = false := by decide) : wpAny (MM w) A (eval (.Name n pos) (lawEnv L)) Q E s := wpAny_Name (wpAny_loadName_local rfl hl x.ns hv h) hd
theorem storeLS {n : Str} {v : Value} {Q : Unit → Shared → Prop} (x : LS s₀ L m H s) (h : ∀ s', LS s₀ L (fun y => if y = n then some v else m y) H s' → Q () s') (hl : (lawEnv L).kindOf n = some .local := by rfl) :
    wpAny (MM w) A (storeName (lawEnv L) n v) Q E s :=
  wpAny_storeName_local (env := lawEnv L) hl x.ns (fun _ hn' hs' => h _ (x.locals hs'.extBut hn')) rfl
theorem emptyLS {pos : Pos} (x : LS s₀ L m H s) (h : ∀ D s', LS s₀ L m ((D, []) :: H) s' → Q (.ref D) s') : wpAny (MM w) A (eval (.List [] pos) (lawEnv L)) Q E s :=
  wpAny_List_spliced (argEnd ⟨by decide, h _ _ ((x.keeps (Keeps.push s _)).add (IsInts.new _ .nil))⟩)
theorem listLS {l : Addr} {ns : List Int} (x : LS s₀ L m H s) (hl : (l, ns) ∈ H) (hn : ns.length ≤ 100000) (h : ∀ D s', 111 ≤ D → (∀ q ∈ H, q.1 ≠ D) → LS s₀ L m ((D, ns) :: H) s' → Q (.ref D) s') : wpAny (MM w) A (call (.type "list") [.ref l]) Q E s := by
  have hb : 111 ≤ s.heap.objs.size := by
    obtain ⟨o, _, _, e, _⟩ := x.ns
    exact Nat.le_trans x.big (Nat.le_of_lt (Heap.lt_size e))
  have hf : ∀ q ∈ H, q.1 ≠ s.heap.objs.size := fun q hq => by
    obtain ⟨o, e⟩ := (x.held q hq).there
    exact Nat.ne_of_lt (Heap.lt_size e)
  obtain ⟨vs, n, e, hi⟩ := x.held _ hl
  refine call_list_seq l (T := "list") (.inl rfl) e rfl rfl (fun h' c' k q => h _ _ hb hf ((x.keeps (Keeps.mk k)).add ⟨vs, c', q, hi⟩)) ?_
  rw [List.size_toArray, hi.length]
  exact Nat.le_trans hn (by decide)
theorem bagLS {l b : Addr} {d : Nat} {u : Tok} {ns B : List Int} (hd : d = 2 ∨ d = 3) (hA : Ok (lawA L) 61) (x : LS s₀ L m H s) (hl : (l, ns) ∈ H) (hb : (b, B) ∈ H) (hn : ns.length + B.length ≤ 40)
    (h : ∀ D s', LS s₀ L m ((D, bagOf d B ns) :: H) s' → Q (.ref D) s') : wpAny (MM w) (lawA L) (call (.ref 82) [.ref b, .ref l, .int d u]) Q E s :=
  bag_c hd x.top x.lam hA x.fr (x.held _ hl) (x.held _ hb) hn fun D s' c lam' hD => h D s' ((x.step77 c lam').add hD)
theorem revLS {o : Expr} {p1 p2 p3 pos : Pos} {k : Nat} {l : Addr} {ns : List Int} (h : wpAny (MM w) A (eval o (lawEnv L)) (fun v s₁ => v = .ref l ∧ LS s₀ L m H s₁ ∧ (l, ns) ∈ H ∧ ns.length ≤ 1000 ∧ ∀ D s', Keeps s₁ s' → LS s₀ L m ((D, ns.reverse) :: H) s' → Q (.ref D) s') E s) :
    wpAny (MM w) A (eval (.Subscript o (.Slice none none (some (.UnaryOp .USub (.Constant (.int 1) k p1) p2)) p3) pos) (lawEnv L)) Q E s := by
  refine sliceInts (ops := fun o i => [o, i]) (fun _ _ => rfl) (wpAny_mono h (fun v s₁ q => ?_) fun _ _ e => e)
  obtain ⟨rfl, x, hm, hn, hq⟩ := q
  refine wpAny_evalPart_none (wpAny_evalPart_none (wpAny_evalPart_some (wpAny_UnaryOp (wpAny_Constant_int (neg_int ⟨l, ns, none, none, some (-1), ns.reverse, rfl, (x.held _ hm).keeps ⟨_, _, rfl, fun _ _ e => e⟩, by omega, .none, .none, .int _ _, by decide, fun xs hx => ?_, fun D s₄ k₄ _ hD => ?_⟩)))))
  · rw [krv_pick]
    simpa using hx.reverse
  · exact hq D s₄ (Keeps.trans ⟨_, _, rfl, fun _ _ e => e⟩ k₄) ((x.keeps (Keeps.trans ⟨_, _, rfl, fun _ _ e => e⟩ k₄)).add hD)
theorem takeLS {o : Expr} {p1 p3 pos : Pos} {k : Nat} {l : Addr} {ns : List Int} (h : wpAny (MM w) A (eval o (lawEnv L)) (fun v s₁ => v = .ref l ∧ LS s₀ L m H s₁ ∧ (l, ns) ∈ H ∧ ns.length ≤ 1000 ∧ ∀ D s', LS s₀ L m ((D, ns.take 5) :: H) s' → Q (.ref D) s') E s) :
    wpAny (MM w) A (eval (.Subscript o (.Slice none (some (.Constant (.int 5) k p1)) none p3) pos) (lawEnv L)) Q E s := by
  refine sliceInts (ops := fun o i => [i, o]) (fun _ _ => rfl) (wpAny_mono h (fun v s₁ q => ?_) fun _ _ e => e)
  obtain ⟨rfl, x, hm, hn, hq⟩ := q
  refine wpAny_evalPart_none (wpAny_evalPart_some (wpAny_Constant_int (wpAny_evalPart_none ⟨l, ns, none, some 5, none, ns.take 5, rfl, (x.held _ hm).keeps ⟨_, _, rfl, fun _ _ e => e⟩, by omega, .none, .int _ _, .none, nofun, fun xs hx => pick_upto 5 hx, fun D s₄ k₄ _ hD => ?_⟩)))
  exact hq D s₄ ((x.keeps (Keeps.trans ⟨_, _, rfl, fun _ _ e => e⟩ k₄)).add hD)
theorem dropLS {o : Expr} {p1 p3 pos : Pos} {k : Nat} {l : Addr} {ns : List Int} (h : wpAny (MM w) A (eval o (lawEnv L)) (fun v s₁ => v = .ref l ∧ LS s₀ L m H s₁ ∧ (l, ns) ∈ H ∧ ns.length ≤ 1000 ∧ ∀ D s', LS s₀ L m ((D, ns.drop 5) :: H) s' → Q (.ref D) s') E s) :
    wpAny (MM w) A (eval (.Subscript o (.Slice (some (.Constant (.int 5) k p1)) none none p3) pos) (lawEnv L)) Q E s := by
  refine sliceInts (ops := fun o i => [i, o]) (fun _ _ => rfl) (wpAny_mono h (fun v s₁ q => ?_) fun _ _ e => e)
  obtain ⟨rfl, x, hm, hn, hq⟩ := q
  refine wpAny_evalPart_some (wpAny_Constant_int (wpAny_evalPart_none (wpAny_evalPart_none ⟨l, ns, some 5, none, none, ns.drop 5, rfl, (x.held _ hm).keeps ⟨_, _, rfl, fun _ _ e => e⟩, by omega, .int _ _, .none, .none, nofun, fun xs hx => pick_from 5 hx, fun D s₄ k₄ _ hD => ?_⟩)))
  exact hq D s₄ ((x.keeps (Keeps.trans ⟨_, _, rfl, fun _ _ e => e⟩ k₄)).add hD)
end
theorem row_end (r0 : Int) : ∀ rs : List Int, rs.length = 4 → (r0 :: rs ++ [0]).getD 5 0 = 0
  | [_, _, _, _], _ => rfl
/-- the place where the walk stops -/
theorem first_stop (r0 : Int) (rs : List Int) (h1 : 1 ≤ r0) (h2 : r0 ≤ 12) (h3 : rs.length = 4) : ∃ e, 1 ≤ e ∧ e ≤ 5 ∧ ((r0 :: rs ++ [0]).getD e 0 = 0 ∨ (r0 :: rs ++ [0]).getD e 0 = 127) ∧ ∀ k, k < e → (r0 :: rs ++ [0]).getD k 0 ≠ 0 ∧ (r0 :: rs ++ [0]).getD k 0 ≠ 127 := by
  generalize hR : r0 :: rs ++ [0] = R
  have g0 : R.getD 0 0 ≠ 0 ∧ R.getD 0 0 ≠ 127 := by rw [← hR]; show r0 ≠ 0 ∧ r0 ≠ 127; omega
  have g5 : R.getD 5 0 = 0 := by rw [← hR]; exact row_end r0 rs h3
  have search : ∀ (f n : Nat), n + f = 5 → (∀ k, k < n → R.getD k 0 ≠ 0 ∧ R.getD k 0 ≠ 127) → ∃ e, e ≤ 5 ∧ (R.getD e 0 = 0 ∨ R.getD e 0 = 127) ∧ ∀ k, k < e → R.getD k 0 ≠ 0 ∧ R.getD k 0 ≠ 127 := by
    intro f
    induction f with
    | zero => intro n hn hb; exact ⟨5, Nat.le_refl _, .inl g5, fun k hk => hb k (by omega)⟩
    | succ f ih =>
      intro n hn hb
      by_cases hz : R.getD n 0 = 0 ∨ R.getD n 0 = 127
      · exact ⟨n, by omega, hz, hb⟩
      · refine ih (n + 1) (by omega) fun k hk => ?_
        by_cases hk' : k < n
        · exact hb k hk'
        · have : k = n := by omega
          subst this
          exact ⟨fun q => hz (.inl q), fun q => hz (.inr q)⟩
  obtain ⟨e, he, hz, hb⟩ := search 5 0 rfl (fun k hk => absurd hk (Nat.not_lt_zero _))
  refine ⟨e, ?_, he, hz, hb⟩
  rcases Nat.eq_zero_or_pos e with rfl | q
  · rcases hz with q | q
    · exact absurd q g0.1
    · exact absurd q g0.2
  · exact q
theorem stop_unique {R : List Int} {e e' : Nat} (hz : R.getD e 0 = 0 ∨ R.getD e 0 = 127) (hb : ∀ k, k < e → R.getD k 0 ≠ 0 ∧ R.getD k 0 ≠ 127) (hz' : R.getD e' 0 = 0 ∨ R.getD e' 0 = 127) (hb' : ∀ k, k < e' → R.getD k 0 ≠ 0 ∧ R.getD k 0 ≠ 127) : e = e' := by
  rcases Nat.lt_trichotomy e e' with h | h | h
  · rcases hz with q | q
    · exact absurd q (hb' e h).1
    · exact absurd q (hb' e h).2
  · exact h
  · rcases hz' with q | q
    · exact absurd q (hb e' h).1
    · exact absurd q (hb e' h).2
theorem sizes_ok {r0 : Int} {rs : List Int} {e : Nat} (h1 : 1 ≤ r0) (h2 : r0 ≤ 12) (h3 : rs.length = 4) (h4 : ∀ r ∈ rs, (0 ≤ r ∧ r ≤ 12) ∨ r = 127) (he1 : 1 ≤ e) (he5 : e ≤ 5) (hb : ∀ k, k < e → (r0 :: rs ++ [0]).getD k 0 ≠ 0 ∧ (r0 :: rs ++ [0]).getD k 0 ≠ 127) :
    (∀ x ∈ walkedAt (r0 :: rs ++ [0]) e, 1 ≤ x ∧ x ≤ 12) ∧ (walkedAt (r0 :: rs ++ [0]) e).length ≤ 10 := by
  have one : ∀ k, k < e → 1 ≤ (r0 :: rs ++ [0]).getD k 0 ∧ (r0 :: rs ++ [0]).getD k 0 ≤ 12 := fun k hk => by
    have hb := hb k hk
    have hm : (r0 :: rs ++ [0]).getD k 0 ∈ r0 :: rs ++ [0] := by
      have hlt : k < (r0 :: rs ++ [0]).length := by simp; omega
      rw [List.getD_eq_getElem?_getD, List.getElem?_eq_getElem hlt]
      exact List.getElem_mem hlt
    generalize (r0 :: rs ++ [0]).getD k 0 = y at *
    rcases List.mem_append.mp hm with hm | hm
    · rcases List.mem_cons.mp hm with rfl | hm
      · exact ⟨h1, h2⟩
      · rcases h4 y hm with q | q
        · have := hb.1; omega
        · exact absurd q hb.2
    · exact absurd (List.mem_singleton.mp hm) hb.1
  constructor
  · intro x hx
    obtain ⟨i, hi, rfl⟩ := List.mem_map.mp hx
    unfold outAt
    by_cases hie : i < e
    · rw [if_pos hie]; exact one i hie
    · rw [if_neg hie]; exact one (e - 1) (by omega)
  · unfold walkedAt
    rw [List.length_map, List.length_range]
    split <;> omega
theorem bagOf_len (d : Nat) : ∀ (xs B : List Int), (bagOf d B xs).length ≤ B.length + xs.length
  | [], B => Nat.le_refl _
  | x :: xs, B => by
    have h1 := bagOf_len d xs (lay d B x)
    have h2 := lay_len d B x
    show (bagOf d (lay d B x) xs).length ≤ _
    simp only [List.length_cons]
    omega
end Mine
end
section
open PySem PySem.W PySem.W.X PySem.Calls PyProof.Rows Builtin Builtin.Slots
set_option maxRecDepth 100000
namespace Mine
theorem tupNe {w : World} {A : Around} {s : Shared} {Q : Value → Shared → Prop} {E : Value → Shared → Prop} {t t' a b a' b' : Addr} {x y : List Int} (ht : s.heap.IsTuple t #[.ref a, .ref b]) (ht' : s.heap.IsTuple t' #[.ref a', .ref b'])
    (ha : IsInts s.heap a x) (hb : IsInts s.heap b y) (ha' : IsInts s.heap a' x) (hb' : IsInts s.heap b' y) (hu : A.units + 40 < 9000) (h : Q (.bool false) s) : wpAny (MM w) A (compareOp .NotEq (.ref t) (.ref t')) Q E s := by
  have hu1 : A.in1.units < cLine := by show A.units + 1 < 9900; omega
  have hu0 : A.units < cLine := by show A.units < 9900; omega
  have eq : ∀ {l l' : Addr} {z : List Int}, IsInts s.heap l z → IsInts s.heap l' z → SeqAt.EqAt A.in1 s (.ref l) (.ref l') true := fun {l l' z} h1 h2 => by
    by_cases q : l = l'
    · subst q; exact SeqAt.EqAt.same _
    · refine SeqAt.EqAt.of_refs q ?_
      obtain ⟨vs, n, e, i⟩ := h1
      obtain ⟨vs', n', e', i'⟩ := h2
      have hl := i.length
      have hl' := i'.length
      have := SeqAt.RcAt.lists (A := A.in1) (s := s) (e := fun _ => true) e.isList e'.isList (by simp; omega) hu1 fun j h1 h2 => ?_
      · rw [List.all_eq_true.mpr (fun _ _ => rfl)] at this
        exact this
      · simp only [List.size_toArray] at h1 h2
        obtain ⟨c, t, ec⟩ := i.all _ (List.getElem_mem h1)
        obtain ⟨d, u, ed⟩ := i'.all _ (List.getElem_mem h2)
        have e1 := i.at j _ (List.getElem?_eq_getElem h1)
        have e2 := i'.at j _ (List.getElem?_eq_getElem h2)
        obtain ⟨n1, t1, f1, g1⟩ := e1
        obtain ⟨n2, t2, f2, g2⟩ := e2
        rw [g1] at g2
        cases g2
        simp only [List.getElem_toArray]
        rw [f1, f2]
        have := SeqAt.EqAt.int_int (A := A.in1.in1) (s := s) n1 t1 n1 t2
        rw [beq_self_eq_true] at this
        exact this
  refine rcNe (SeqAt.RcNeAt.tuples (e := fun _ => true) ht ht' hu0 fun j h1 h2 => ?_) ?_
  · have h1' : j < 2 := h1
    match j, h1' with
    | 0, _ => exact eq ha ha'
    | 1, _ => exact eq hb hb'
  · exact h
theorem listsEq {w : World} {A : Around} {s : Shared} {Q : Value → Shared → Prop} {E : Value → Shared → Prop} {D D' : Addr} {ys zs : Array Value} {z : List Int} (hl : s.heap.IsList D ys) (hl' : s.heap.IsList D' zs) (hz : ∀ j (h : j < zs.size), ∃ a, zs[j] = .ref a ∧ IsInts s.heap a z) (hsz : ys.size = zs.size)
    (hy : ∀ j (h : j < ys.size), ∃ a, ys[j] = .ref a ∧ IsInts s.heap a z) (hu : A.units + 40 < 9000) (h : Q (.bool true) s) : wpAny (MM w) A (compareOp .Eq (.ref D) (.ref D')) Q E s := by
  have hu1 : A.in1.units < cLine := by show A.units + 1 < 9900; omega
  have hu0 : A.units < cLine := by show A.units < 9900; omega
  have eq : ∀ {l l' : Addr} {z : List Int}, IsInts s.heap l z → IsInts s.heap l' z → SeqAt.EqAt A.in1 s (.ref l) (.ref l') true := fun {l l' z} h1 h2 => by
    by_cases q : l = l'
    · subst q; exact SeqAt.EqAt.same _
    · refine SeqAt.EqAt.of_refs q ?_
      obtain ⟨vs, n, e, i⟩ := h1
      obtain ⟨vs', n', e', i'⟩ := h2
      have hl := i.length
      have hl' := i'.length
      have := SeqAt.RcAt.lists (A := A.in1) (s := s) (e := fun _ => true) e.isList e'.isList (by simp; omega) hu1 fun j h1 h2 => ?_
      · rw [List.all_eq_true.mpr (fun _ _ => rfl)] at this
        exact this
      · simp only [List.size_toArray] at h1 h2
        have e1 := i.at j _ (List.getElem?_eq_getElem h1)
        have e2 := i'.at j _ (List.getElem?_eq_getElem h2)
        obtain ⟨n1, t1, f1, g1⟩ := e1
        obtain ⟨n2, t2, f2, g2⟩ := e2
        rw [g1] at g2
        cases g2
        simp only [List.getElem_toArray]
        rw [f1, f2]
        have := SeqAt.EqAt.int_int (A := A.in1.in1) (s := s) n1 t1 n1 t2
        rw [beq_self_eq_true] at this
        exact this
  have rc := SeqAt.RcAt.lists (A := A) (s := s) (e := fun _ => true) hl hl' hsz hu0 fun j h1 h2 => by
    obtain ⟨a, ea, ia⟩ := hy j h1
    obtain ⟨b, eb, ib⟩ := hz j h2
    rw [ea, eb]
    exact eq ia ib
  rw [List.all_eq_true.mpr (fun _ _ => rfl)] at rc
  exact cmp_ofEq (rc _ _ _ _ h)
/-- the end of the law's walk -/
structure LawEnd (s₁ s' : Shared) : Prop where
  keep : ∀ b o, s₁.heap.get? b = some o → b ≠ 30 → b ≠ 77 → b < 111 → (b = 110 → ∀ ps, o ≠ tabObj ps) → s'.heap.get? b = some o
  t30 : ∃ ps, s'.heap.get? 30 = some (tabObj ps)
  t77 : ∃ ps, s'.heap.get? 77 = some (tabObj ps)
  os : s'.os = s₁.os
  bare : AllBare s'.gens
theorem gen_post {M : Model} {A : Around} {α : Type} {m : Sem α} {Q : α → Shared → Prop} {E : Value → Shared → Prop} {s : Shared} (h : ∀ R : α → Shared → Prop, (∀ v s', Q v s' → R v s') → wpAny M A m R E s) : wpAny M A m Q E s := h Q fun _ _ q => q
theorem law_end {s₁ s₃₄ s₃₅ : Shared} {m : Str → Option Value} {H : List (Addr × List Int)} {o' : Obj} (x₃₄ : LS s₁ 111 m H s₃₄) (B : BaseOk s₃₄.heap s₃₅.heap) (ho : s₃₅.os = s₃₄.os) (hg : s₃₅.gens = s₃₄.gens) : LawEnd s₁ { s₃₅ with heap := s₃₅.heap.push o' } := by
  obtain ⟨p30, e30, _⟩ := B.kok.tab
  obtain ⟨p77, e77, _⟩ := B.t77
  refine ⟨fun b o e h30 h77 hb h110 => ?_, ⟨p30, Heap.get?_push_of_some _ e30⟩, ⟨p77, Heap.get?_push_of_some _ e77⟩, ho.trans x₃₄.os, fun g hm => x₃₄.bare g (hg ▸ hm)⟩
  have e' := x₃₄.low b o hb h77 e
  by_cases h : b = 110
  · exact Heap.get?_push_of_some _ (B.kt b o (h110 h) e')
  · exact Heap.get?_push_of_some _ (B.lo b o (Nat.lt_of_le_of_ne (Nat.le_of_lt_succ hb) h) h30 e')
section
variable {w : World} {s₁ s : Shared} {m : Str → Option Value} {d : Nat} {u : Tok} {S Ah Bt Ch : List Int} {Ds Da Dt Dh : Addr} {R : Flow → Shared → Prop}
theorem okA : Ok (lawA 111) 69 := ⟨rfl, by decide, by decide⟩
/-- due, and the last comparison -/
theorem law_seg4 (hd : d = 2 ∨ d = 3) (x : LS s₁ 111 m [(Dh, Ch), (Dt, Bt), (Da, Ah), (Ds, S)] s) (ms : m "sizes" = some (.ref Ds)) (md : m "d" = some (.int d u)) (ma : m "ahead" = some (.ref Da)) (mt : m "turned" = some (.ref Dt)) (mh : m "halves" = some (.ref Dh))
    (hS : ∀ x ∈ S, 1 ≤ x ∧ x ≤ 12) (hSl : S.length ≤ 10) (hA : Ah.length ≤ 10) (p1 : Ah.Perm (dueUpto d S 12)) (p2 : Bt.Perm (dueUpto d S 12)) (p3 : Ch.Perm (dueUpto d S 12)) (h : ∀ s', LawEnd s₁ s' → R (.ret (.bool true)) s') :
    wpAny (MM w) (lawA 111) (execs ((fnBody 20).drop 8) (lawEnv 111)) R (fun _ _ => False) s := by
  have hdl : (dueUpto d S 12).length < 64 := by rw [← p1.length_eq]; exact Nat.lt_of_le_of_lt hA (by decide)
  have h64 : ∀ b ∈ [Ah, Bt, Ch], b.Perm (dueUpto d S 12) := fun b hb => by
    rcases List.mem_cons.mp hb with rfl | hb
    · exact p1
    · rcases List.mem_cons.mp hb with rfl | hb
      · exact p2
      · rw [List.mem_singleton.mp hb]; exact p3
  refine wpAny_execs_cons (wpAny_Assign_Name (callFn x.top rfl (arg (nameLS x ms (arg (nameLS x md (argEnd ⟨x.top, due_c hd x.top (okA.less (by decide)) (x.get (a := Ds) (ns := S) (.tail _ (.tail _ (.tail _ (.head _))))) hS hSl hdl fun Dd s₃₂ U k₃₂ _ hDd pU oU => ?_⟩)))))))
  refine storeLS ((x.keeps k₃₂).add hDd) fun s₃₃ x₃₃ => ?_
  clear x hDd k₃₂
  refine wpAny_execs_cons (wpAny_Return_some (wpAny_Compare1 ?_))
  refine comp_c (n := 65) (bs := [Ah, Bt, Ch]) (vs := [.ref Da, .ref Dt, .ref Dh]) okA (fun b hb => by rw [(h64 b hb).length_eq]; exact hdl) (Nat.le_refl 3) (wpAny_Tuple_spliced (arg (nameLS x₃₃ ma (arg (nameLS x₃₃ mt (arg (nameLS x₃₃ mh (argEnd ⟨by show 3 ≤ _; decide, ?_⟩))))))))
  have x₃₄ := x₃₃.keeps (Keeps.push s₃₃ { cls := .type "tuple", data := .seq ([.ref Da, .ref Dt, .ref Dh] : List Value).toArray })
  refine ⟨s₃₃.heap.objs.size, rfl, ⟨_, Heap.get?_push_size _ rfl, rfl, 0, rfl⟩, ⟨fun _ _ _ e => e, fun _ _ _ _ e => e, x₃₄.top, x₃₄.kok, x₃₄.t77⟩,
    .cons ⟨Da, rfl, x₃₄.get (.tail _ (.tail _ (.tail _ (.head _))))⟩ (.cons ⟨Dt, rfl, x₃₄.get (.tail _ (.tail _ (.head _)))⟩ (.cons ⟨Dh, rfl, x₃₄.get (.tail _ (.head _))⟩ .nil)), fun D h' tk ys B _ hD hF => ?_⟩
  generalize s₃₃.heap.push { cls := .type "tuple", data := .seq ([.ref Da, .ref Dt, .ref Dh] : List Value).toArray } = Ht at x₃₄ B
  have hns := B.kt.ns x₃₄.ns
  have hU : IsInts h' Dd U := B.kt.ints (x₃₄.get (a := Dd) (.head _))
  refine wpAny_List_spliced (arg (wpAny_Name (wpAny_loadName_local (env := lawEnv 111) rfl rfl hns rfl (arg (wpAny_Name (wpAny_loadName_local (env := lawEnv 111) rfl rfl hns rfl (arg (wpAny_Name (wpAny_loadName_local (env := lawEnv 111) rfl rfl hns rfl (argEnd ⟨by show 3 ≤ _; decide, ?_⟩)) (by decide)))) (by decide)))) (by decide)))
  have kp : ∀ b o, h'.get? b = some o → (h'.push { cls := .type "list", data := .seq ([.ref Dd, .ref Dd, .ref Dd] : List Value).toArray }).get? b = some o := fun b o e => Heap.get?_push_of_some _ e
  have hys3 : ys.size = 3 := by rw [← Array.length_toList, ← hF.length]; rfl
  obtain ⟨oD, eD, cD, nD, dD⟩ := hD
  refine listsEq (z := U) ⟨oD, kp _ _ eD, cD, nD, dD⟩ ⟨_, Heap.get?_push_size _ rfl, rfl, 0, rfl⟩ (fun j hj => ?_) hys3 (fun j hj => ?_) (by decide) ?_
  · have hj' : j < 3 := hj
    match j, hj' with
    | 0, _ => exact ⟨Dd, rfl, hU.keep kp⟩
    | 1, _ => exact ⟨Dd, rfl, hU.keep kp⟩
    | 2, _ => exact ⟨Dd, rfl, hU.keep kp⟩
  · obtain ⟨b, hb, D', ns', e1, _, i1, pm, so⟩ := paired_at hF (i := j) (b := ys[j]) (by rw [Array.getElem?_toList]; exact Array.getElem?_eq_getElem hj)
    refine ⟨D', e1, ?_⟩
    have : ns' = U := sorted_unique (pm.trans ((h64 b (List.mem_of_getElem? hb)).trans pU.symm)) so oU
    rw [← this]
    exact i1.keep kp
  · exact h _ (law_end (s₃₅ := { s₃₃ with heap := h', toks := tk }) x₃₄ B rfl rfl)
/-- turned, halves -/
theorem law_seg3 (hd : d = 2 ∨ d = 3) (x : LS s₁ 111 m [(Da, Ah), (Ds, S)] s) (ms : m "sizes" = some (.ref Ds)) (md : m "d" = some (.int d u)) (ma : m "ahead" = some (.ref Da))
    (hS : ∀ x ∈ S, 1 ≤ x ∧ x ≤ 12) (hSl : S.length ≤ 10) (hA : Ah.length ≤ 10) (hAd : bagOf d [] S = Ah) (h : ∀ s', LawEnd s₁ s' → R (.ret (.bool true)) s') :
    wpAny (MM w) (lawA 111) (execs ((fnBody 20).drop 6) (lawEnv 111)) R (fun _ _ => False) s := by
  obtain ⟨p1, p2, p3⟩ := bags_due hd hS hSl
  rw [hAd] at p1
  refine wpAny_execs_cons (wpAny_Assign_Name (callFn x.top rfl (arg (emptyLS x fun D0 s₂₀ x₂₀ => arg (revLS (l := Ds) (ns := S) (nameLS x₂₀ ms ⟨rfl, x₂₀, .tail _ (.tail _ (.head _)), Nat.le_trans hSl (by decide), fun Dv s₂₁ _ x₂₁ => arg (nameLS x₂₁ md (argEnd ⟨x₂₁.top, bagLS (l := Dv) (b := D0) (ns := S.reverse) (B := []) hd (okA.less (by decide)) x₂₁ (.head _) (.tail _ (.head _)) (by rw [List.length_reverse]; exact Nat.le_trans hSl (by decide)) fun Dt s₂₂ x₂₂ => ?_⟩))⟩))))))
  have x₂₂ := x₂₂.drop (H' := [(Dt, bagOf d [] S.reverse), (Da, Ah), (Ds, S)]) (fun q hq => by
    rcases List.mem_cons.mp hq with rfl | hq
    · exact .head _
    · exact .tail _ (.tail _ (.tail _ hq)))
  refine storeLS x₂₂ fun s₂₃ x₂₃ => ?_
  generalize hm' : (fun y => if y = ("turned" : Str) then some (Value.ref Dt) else m y) = m' at x₂₃
  have ms' : m' "sizes" = some (.ref Ds) := by rw [← hm']; exact ms
  have md' : m' "d" = some (.int d u) := by rw [← hm']; exact md
  have ma' : m' "ahead" = some (.ref Da) := by rw [← hm']; exact ma
  have mt' : m' "turned" = some (.ref Dt) := by rw [← hm']; rfl
  clear hm' x₂₂ x
  generalize bagOf d [] S.reverse = Bt at *
  have hT := bagOf_len d (S.take 5) []
  have hD := bagOf_len d (S.drop 5) []
  rw [List.length_take] at hT
  rw [List.length_drop] at hD
  have hT5 : (bagOf d [] (S.take 5)).length ≤ 5 := Nat.le_trans hT (Nat.le_trans (Nat.le_of_eq (Nat.zero_add _)) (Nat.min_le_left _ _))
  have hD5 : (bagOf d [] (S.drop 5)).length ≤ 10 := Nat.le_trans hD (Nat.le_trans (Nat.le_of_eq (Nat.zero_add _)) (Nat.le_trans (Nat.sub_le _ _) hSl))
  have t5 : (S.take 5).length ≤ 10 := by rw [List.length_take]; exact Nat.le_trans (Nat.min_le_right _ _) hSl
  have d5 : (S.drop 5).length ≤ 10 := by rw [List.length_drop]; exact Nat.le_trans (Nat.sub_le _ _) hSl
  refine wpAny_execs_cons (wpAny_Assign_Name (callFn x₂₃.top rfl (arg (callFn x₂₃.top rfl (arg (emptyLS x₂₃ fun D0 s₂₄ x₂₄ => arg (takeLS (l := Ds) (ns := S) (nameLS x₂₄ ms' ⟨rfl, x₂₄, .tail _ (.tail _ (.tail _ (.head _))), Nat.le_trans hSl (by decide), fun Dv s₂₅ x₂₅ => arg (nameLS x₂₅ md' (argEnd ⟨x₂₅.top, bagLS (l := Dv) (b := D0) (ns := S.take 5) (B := []) hd (okA.less (by decide)) x₂₅ (.head _) (.tail _ (.head _)) (Nat.le_trans t5 (by decide)) fun D1 s₂₆ x₂₆ => ?_⟩))⟩))))))))
  have x₂₆ := x₂₆.drop (H' := [(D1, bagOf d [] (S.take 5)), (Dt, Bt), (Da, Ah), (Ds, S)]) (fun q hq => by
    rcases List.mem_cons.mp hq with rfl | hq
    · exact .head _
    · exact .tail _ (.tail _ (.tail _ hq)))
  generalize bagOf d [] (S.take 5) = Th at *
  refine arg (callFn x₂₆.top rfl (arg (emptyLS x₂₆ fun D0 s₂₇ x₂₇ => arg (dropLS (l := Ds) (ns := S) (nameLS x₂₇ ms' ⟨rfl, x₂₇, .tail _ (.tail _ (.tail _ (.tail _ (.head _)))), Nat.le_trans hSl (by decide), fun Dv s₂₈ x₂₈ => arg (nameLS x₂₈ md' (argEnd ⟨x₂₈.top, bagLS (l := Dv) (b := D0) (ns := S.drop 5) (B := []) hd (okA.less (by decide)) x₂₈ (.head _) (.tail _ (.head _)) (Nat.le_trans d5 (by decide)) fun D2 s₂₉ x₂₉ => ?_⟩))⟩)))))
  have x₂₉ := x₂₉.drop (H' := [(D2, bagOf d [] (S.drop 5)), (D1, Th), (Dt, Bt), (Da, Ah), (Ds, S)]) (fun q hq => by
    rcases List.mem_cons.mp hq with rfl | hq
    · exact .head _
    · exact .tail _ (.tail _ (.tail _ hq)))
  generalize bagOf d [] (S.drop 5) = Dr at *
  refine arg (nameLS x₂₉ md' (argEnd ⟨x₂₉.top, bagLS (l := D2) (b := D1) (ns := Dr) (B := Th) hd (okA.less (by decide)) x₂₉ (.head _) (.tail _ (.head _)) (Nat.le_trans (Nat.add_le_add hD5 hT5) (by decide)) fun Dh s₃₀ x₃₀ => ?_⟩))
  generalize bagOf d Th Dr = Ch at *
  have x₃₀ := x₃₀.drop (H' := [(Dh, Ch), (Dt, Bt), (Da, Ah), (Ds, S)]) (fun q hq => by
    rcases List.mem_cons.mp hq with rfl | hq
    · exact .head _
    · exact .tail _ (.tail _ (.tail _ hq)))
  refine storeLS x₃₀ fun s₃₁ x₃₁ => ?_
  exact law_seg4 hd x₃₁ ms' md' ma' mt' rfl hS hSl hA p1 p2 p3 h
/-- ahead, and the difference of the two -/
theorem law_seg2 (hd : d = 2 ∨ d = 3) (x : LS s₁ 111 m [(Ds, S)] s) (ms : m "sizes" = some (.ref Ds)) (md : m "d" = some (.int d u))
    (hS : ∀ x ∈ S, 1 ≤ x ∧ x ≤ 12) (hSl : S.length ≤ 10) (h : ∀ s', LawEnd s₁ s' → R (.ret (.bool true)) s') :
    wpAny (MM w) (lawA 111) (execs ((fnBody 20).drop 4) (lawEnv 111)) R (fun _ _ => False) s := by
  refine wpAny_execs_cons (wpAny_Assign_Name (callFn x.top rfl (arg (emptyLS x fun D0 s₁₀ x₁₀ => arg (nameLS x₁₀ ms (arg (nameLS x₁₀ md (argEnd ⟨x₁₀.top, bagLS (H := [(D0, []), (Ds, S)]) (l := Ds) (b := D0) hd (okA.less (by decide)) x₁₀ (.tail _ (.head _)) (.head _) (Nat.le_trans hSl (by decide)) fun Da s₁₁ x₁₁ => ?_⟩))))))))
  have hAl := bagOf_len d S []
  have hul := uld_beyond S (bagOf d [] S)
  generalize hAd : bagOf d [] S = Ah at *
  have hA : Ah.length ≤ 10 := Nat.le_trans hAl (Nat.le_trans (Nat.le_of_eq (Nat.zero_add _)) hSl)
  clear hAl
  have x₁₁ := x₁₁.drop (H' := [(Da, Ah), (Ds, S)]) (fun q hq => by
    rcases List.mem_cons.mp hq with rfl | hq
    · exact .head _
    · exact .tail _ (.tail _ hq))
  refine storeLS x₁₁ fun s₁₂ x₁₂ => ?_
  generalize hm' : (fun y => if y = ("ahead" : Str) then some (Value.ref Da) else m y) = m' at x₁₂
  have ms' : m' "sizes" = some (.ref Ds) := by rw [← hm']; exact ms
  have md' : m' "d" = some (.int d u) := by rw [← hm']; exact md
  have ma' : m' "ahead" = some (.ref Da) := by rw [← hm']; rfl
  clear hm' x₁₁ x ms md
  have big : S.length ≤ 100000 ∧ Ah.length ≤ 100000 := ⟨Nat.le_trans hSl (by decide), Nat.le_trans hA (by decide)⟩
  refine wpAny_execs_cons (wpAny_If (wpAny_isTrue_Compare1 (callFn x₁₂.top rfl (arg (callTy x₁₂.top rfl (arg (nameLS x₁₂ ms' (argEnd (listLS x₁₂ (l := Ds) (ns := S) (.tail _ (.head _)) big.1 fun C1 s₁₃ c1b c1n x₁₃ => ?_)))))))))
  refine arg (callTy x₁₃.top rfl (arg (nameLS x₁₃ ma' (argEnd (listLS x₁₃ (l := Da) (ns := Ah) (.tail _ (.head _)) big.2 fun C2 s₁₄ c2b c2n x₁₄ => ?_)))))
  refine argEnd ⟨x₁₄.top, uld_c x₁₄.top (okA.less (by decide)) x₁₄.fr (x₁₄.get (a := C1) (ns := S) (.tail _ (.head _))) (x₁₄.get (a := C2) (ns := Ah) (.head _)) (c2n _ (.head _)) (Nat.le_trans hSl (by decide)) (Nat.le_trans hA (by decide)) fun tp ml s₁₅ c₁₅ htp _ hml hac => ?_⟩
  rw [hul] at hml hac
  have x₁₅ := x₁₄.uld c1b c2b c1n c2n c₁₅
  have x₁₅ := (x₁₅.add hac).add hml
  refine wpAny_Tuple_spliced (arg (callFn x₁₅.top rfl (arg (revLS (l := Ds) (ns := S) (nameLS x₁₅ ms' ⟨rfl, x₁₅, .tail _ (.tail _ (.tail _ (.head _))), Nat.le_trans hSl (by decide), fun Dv s₁₆ k₁₆ x₁₆ => ?_⟩)))))
  have htp16 := isTuple_keep htp k₁₆
  refine arg (nameLS x₁₆ ma' (argEnd ⟨x₁₆.top, beyond_c x₁₆.top (okA.less (by decide)) (x₁₆.get (a := Dv) (ns := S.reverse) (.head _)) (x₁₆.get (a := Da) (ns := Ah) (.tail _ (.tail _ (.tail _ (.head _))))) (by rw [List.length_reverse]; exact big.1) big.2 fun B1 s₁₇ k₁₇ hB1 => ?_⟩))
  have x₁₇ := (x₁₆.keeps k₁₇).add hB1
  refine arg (callFn x₁₇.top rfl (arg (nameLS x₁₇ ma' (arg (nameLS x₁₇ ms' (argEnd ⟨x₁₇.top, beyond_c x₁₇.top (okA.less (by decide)) (x₁₇.get (a := Da) (ns := Ah) (.tail _ (.tail _ (.tail _ (.tail _ (.head _)))))) (x₁₇.get (a := Ds) (ns := S) (.tail _ (.tail _ (.tail _ (.tail _ (.tail _ (.head _))))))) big.2 big.1 fun B2 s₁₈ k₁₈ hB2 => ?_⟩))))))
  have x₁₈ := (x₁₇.keeps k₁₈).add hB2
  refine argEnd ⟨by show 2 ≤ _; decide, ?_⟩
  have x₁₉ := x₁₈.keeps (Keeps.push s₁₈ { cls := .type "tuple", data := .seq ([.ref B1, .ref B2] : List Value).toArray })
  have htp19 := isTuple_keep (isTuple_keep (isTuple_keep htp16 k₁₇) k₁₈) (Keeps.push s₁₈ { cls := .type "tuple", data := .seq ([.ref B1, .ref B2] : List Value).toArray })
  refine tupNe (x := beyond S.reverse Ah) (y := beyond Ah S) htp19 ⟨_, Heap.get?_push_size _ rfl, rfl, 0, rfl⟩ (x₁₉.get (a := ml) (.tail _ (.tail _ (.tail _ (.head _))))) (x₁₉.get (a := C2) (.tail _ (.tail _ (.tail _ (.tail _ (.head _)))))) (x₁₉.get (a := B1) (.tail _ (.head _))) (x₁₉.get (a := B2) (.head _)) (by decide) (wpAny_truthy_bool ?_)
  rw [if_neg (by decide)]
  refine wpAny_execs_nil ?_
  exact law_seg3 hd (x₁₉.drop (fun q hq => .tail _ (.tail _ (.tail _ (.tail _ (.tail _ hq)))))) ms' md' ma' hS hSl hA hAd h
end
set_option maxHeartbeats 4000000 in
theorem law_walk (w : World) (s₁ : Shared) (ns : List Int) (T : TopOk s₁.heap) (lam : LamOk s₁.heap) (kok : KOk s₁.heap) (hg : s₁.gens = #[]) (hsz : s₁.heap.objs.size = 111) (hl : IsInts s₁.heap 110 ns) (hn : ns.length ≤ 63)
      (t30 : s₁.heap.get? 30 = some (tabObj #[])) (t77 : s₁.heap.get? 77 = some (tabObj #[]))
      (Q : Value → Shared → Prop) (E : Value → Shared → Prop) (h : ∀ s', OldK s₁.heap s'.heap → s'.os = s₁.os → AllBare s'.gens → Q (.bool true) s') :
      wpAny (MM w) callerA (call (.ref 109) [.ref 110]) Q E s₁ := by
  have hA : Ok callerA 70 := ⟨rfl, by show 1 + 300 + 70 < 900; decide, by show 4 + 20 * 70 < 9000; decide⟩
  refine enter (n := 70) (k := 20) (c := 108) (binds := [("script", .ref 110)]) T hA rfl (fun _ _ => rfl) (fun N y hy => ?_) ⟨rfl, rfl, rfl⟩ fun s₂ y => ?_
  · rw [List.mem_singleton.mp hy]; exact .inl rfl
  rw [hsz] at y ⊢
  have hA' : Ok (lawA 111) 69 := hA.deeper
  have x₁ : LS s₁ 111 (bindL (lawEnv 111).kindOf [("script", .ref 110)] fun _ => none) [(110, ns)] s₂ := by
    have k := keptC y
    refine ⟨y.toInCall.ns, topC y T, lam.st (St.of fun b o e => Keeps.get k e), kok.keeps fun b o e => Keeps.get k e, ?_, fun b o _ _ e => Keeps.get k e, ?_, ?_, Nat.le_refl _, fun q hq => ?_⟩
    · have fr₀ : FrOk callerA [] s₂.heap := ⟨[], rfl, rfl, fun _ h => absurd h List.not_mem_nil⟩
      exact fr₀.push nofun rfl y.toInCall.ns
    · obtain ⟨h', t, e⟩ := y.toInCall.same
      rw [e]
    · obtain ⟨h', t, e⟩ := y.toInCall.same
      rw [e]
      intro g hg'
      have : g ∈ s₁.gens := hg'
      rw [hg] at this
      exact absurd this (by simp)
    · rw [List.mem_singleton.mp hq]
      exact hl.keeps k
  clear y
  -- d
  refine wpAny_execs_cons (wpAny_Assign_Name (wpAny_BinOp (wpAny_Constant_int (wpAny_BinOp ?_))))
  have x₂ := x₁.keeps (Keeps.tok s₂ (s₂.toks + 1))
  refine callBu x₂.top rfl (arg (nameLS x₂ rfl (argEnd (sumInts rfl (x₂.get (a := 110) (ns := ns) (.head _)) fun t s₃ k₃ => wpAny_Constant_int (mod_int' (by decide) (add_int ?_))))))
  have x₃ := x₂.keeps (Keeps.trans k₃ (⟨_, _, rfl, fun _ _ e => e⟩ : Keeps s₃ { s₃ with toks := s₃.toks + 1 + 1 + 1 }))
  obtain ⟨d, hd, hde⟩ : ∃ d : Nat, (d = 2 ∨ d = 3) ∧ 2 + ns.sum.fmod 2 = (d : Int) := by
    rw [Int.fmod_eq_emod_of_nonneg _ (by decide)]
    have hq : ns.sum % 2 = 0 ∨ ns.sum % 2 = 1 := by omega
    rcases hq with q | q
    · exact ⟨2, .inl rfl, by rw [q]; rfl⟩
    · exact ⟨3, .inr rfl, by rw [q]; rfl⟩
  rw [hde]
  refine storeLS x₃ fun s₄ x₄ => ?_
  -- row
  refine wpAny_execs_cons (wpAny_Assign_Name (callFn x₄.top rfl (arg (nameLS x₄ rfl (argEnd ⟨x₄.top, drawn_c x₄.top (hA'.less (by omega)) (x₄.get (a := 110) (ns := ns) (.head _)) (by omega) fun Dr s₅ r0 rs k₅ h1 h2 h3 h4 hDr => ?_⟩)))))
  obtain ⟨e, he1, he5, hz, hbef⟩ := first_stop r0 rs h1 h2 h3
  obtain ⟨hS, hSl⟩ := sizes_ok h1 h2 h3 h4 he1 he5 hbef
  have hR6 : (r0 :: rs ++ [0]).length = 6 := by simp [h3]
  have hR0 : (r0 :: rs ++ [0]).getD 0 0 ≠ 0 ∧ (r0 :: rs ++ [0]).getD 0 0 ≠ 127 := hbef 0 he1
  have hR5 : (r0 :: rs ++ [0]).getD 5 0 = 0 := row_end r0 rs h3
  have hwt := walked_told hR6 he1 he5 hz
  generalize r0 :: rs ++ [0] = R at *
  generalize hSd : walkedAt R e = S at *
  refine storeLS ((x₄.keeps k₅).add hDr) fun s₆ x₆ => ?_
  -- sizes
  refine wpAny_execs_cons (wpAny_Assign_Name (callFn x₆.top rfl (arg (nameLS x₆ rfl (argEnd ⟨x₆.top, walked_c (e := e) x₆.top (hA'.less (by omega)) (x₆.get (a := Dr) (ns := R) (.head _)) hR6 he1 he5 hz hbef fun Ds h₇ tk₇ G k₇ hG _ hDs => ?_⟩)))))
  rw [hSd] at hDs
  refine storeLS ((x₆.gen (tk := tk₇) k₇ hG).add hDs) fun s₈ x₈ => ?_
  -- sizes != told
  refine wpAny_execs_cons (wpAny_If (wpAny_isTrue_Compare1 (nameLS x₈ rfl (callFn x₈.top rfl (arg (nameLS x₈ rfl (argEnd ⟨x₈.top, told_c x₈.top (hA'.less (by omega)) (x₈.get (a := Dr) (ns := R) (.tail _ (.head _))) hR6 hR0 hR5 fun Dt s₉ e' k₉ _ _ hz' hbef' hDt => ?_⟩)))))))
  have hee : e = e' := stop_unique hz hbef hz' hbef'
  rw [← hee, ← hwt] at hDt
  have x₉ := (x₈.keeps k₉)
  refine neInts (x₉.get (a := Ds) (ns := S) (.head _)) hDt hA'.units (wpAny_truthy_bool ?_)
  rw [bne_self_eq_false, if_neg (by decide)]
  refine wpAny_execs_nil ?_
  have x₉ := x₉.drop (H' := [(Ds, S)]) (fun q hq => by rw [List.mem_singleton.mp hq]; exact .head _)
  refine law_seg2 hd x₉ rfl rfl hS hSl fun s' le => h s' ?_ le.os le.bare
  obtain ⟨p30, e30⟩ := le.t30
  obtain ⟨p77, e77⟩ := le.t77
  have code30 := (kok.code.tab t30).isCodeTable
  have code77 := (lam.code.tab t77).isCodeTable
  have main : ∀ b o, s₁.heap.get? b = some o → b ≠ 30 → b ≠ 77 → s'.heap.get? b = some o := fun b o e h30 h77 => by
    refine le.keep b o e h30 h77 (by rw [← hsz]; exact Heap.lt_size e) fun h110 ps q => ?_
    obtain ⟨vs, n, el, _⟩ := hl
    have el' : s₁.heap.get? 110 = some _ := el
    rw [h110, el'] at e
    rw [q] at e
    cases e
  refine ⟨fun b o e => ?_, fun b o e => ?_⟩
  · by_cases h30 : b = 30
    · subst h30
      rw [t30] at e; cases e
      exact .inr (.inl ⟨code30, rfl, #[], p30, rfl, by rw [Array.empty_append]; exact e30⟩)
    · by_cases h77 : b = 77
      · subst h77
        rw [t77] at e; cases e
        exact .inr (.inl ⟨code77, rfl, #[], p77, rfl, by rw [Array.empty_append]; exact e77⟩)
      · exact .inl (main b o e h30 h77)
  · by_cases h30 : b = 30
    · exact ⟨_, h30 ▸ e30⟩
    · by_cases h77 : b = 77
      · exact ⟨_, h77 ▸ e77⟩
      · exact ⟨_, main b o e h30 h77⟩
end Mine
end
section
open PySem PySem.W PySem.W.X PySem.W.ZRun PySem.Calls PyProof.Rows
set_option maxRecDepth 100000
namespace Mine

theorem of_all {α β : Type} [BEq α] [LawfulBEq α] {l : List (α × β)} {p : α × β → Bool} (h : l.all p = true) {a : α} {b : β} (e : l.lookup a = some b) : p (a, b) = true := by
  induction l with
  | nil => cases e
  | cons y l ih =>
    obtain ⟨c, d⟩ := y
    rw [List.all_cons, Bool.and_eq_true] at h
    rw [List.lookup_cons] at e
    cases q : a == c with
    | true => rw [q] at e; cases e; rw [beq_iff_eq.mp q]; exact h.1
    | false => rw [q] at e; exact ih h.2 e

theorem ints_of_well {P : Params} {h : Heap} {a : Addr} {ns : List Int} {vs : List Value} (wl : Well P h (.ref a) (ofPy (PyData.list (ns.map PyData.int)))) (hL : h.IsList a vs.toArray) (hi : IntsAre vs ns) : IsInts h a ns := by
  have wl' : Well P h (.ref a) (.list (ofPys (ns.map PyData.int))) := wl
  obtain ⟨o, e, _, n, d⟩ := hL
  cases wl' with
  | list e' _ =>
    rw [e] at e'
    cases e'
    have hv := (Data.seq.inj d).1
    exact ⟨vs, 0, by rw [← hv]; exact e, hi⟩
theorem mg_some_of {K : Frag} {h : Heap} {mg : Str → Option Value} {n : Str} (X : K.In h) (G : h.Ns mainGlobals mg) (e : ((nsIn K mainGlobals n).bind id).isSome = true) : ∃ v, mg n = some v := by
  cases q : nsIn K mainGlobals n with
  | none => rw [q] at e; cases e
  | some r =>
    cases r with
    | none => rw [q] at e; cases e
    | some v => exact ⟨v, mg_of X G q⟩
set_option maxHeartbeats 0 in
theorem head : PySem.Challenge.rw_ny0073_01.Holds := by
  w_on; o_law; z_head; (case hw => w_witness2)
  k_fill
  intro w s₀ s₁ mg mb G y fa o pm cd doc dV kV ho hd hcd hD hmg hg args vals as L hpre hlay hrd hwl hlo
  z_open y L KX ZH ZN ZT
  refine Ground.open G ?_
  intro T B D TE TW
  wrow_args hpre hlay hrd hwl hlo
  obtain ⟨hat, hsz⟩ := script_at L
  have htk := script_toks L ZT
  rw [ZN] at hat hsz
  subst hat
  x_fa T KX hmg
  all_lens
  have top : TopOk s₁.heap := by
    have fnsAll : ∀ q ∈ fns, ∃ o pm doc, s₁.heap.get? q.1 = some o ∧ o.data = .func (fdOf q.2.1 q.2.2.1 q.2.2.2 pm doc) ∧ s₁.heap.CodeRec (.ref q.2.2.1) (fnName q.2.1) := by
      unfold fns
      repeat' (first | exact List.forall_mem_nil _ | (refine List.forall_mem_cons.mpr ⟨⟨_, _, _, KX _ _ rfl, rfl, codeRec_of KX (by kernel_rfl)⟩, ?_⟩))
    refine ⟨⟨mg, T.g, ?_, ?_, ?_⟩, ⟨mb, T.b, ?_⟩, T.nolimit, ?_, ?_, ?_⟩
    · intro n v e
      refine mg_of KX T.g ?_
      exact of_decide_eq_true (of_all (l := globs) (p := fun q => decide (nsIn _ mainGlobals q.1 = some (some q.2))) (by kernel_rfl) e)
    · intro n v e
      refine mg_none_of KX T.g ?_
      exact of_decide_eq_true (of_all (l := builts) (p := fun q => decide (nsIn _ mainGlobals q.1 = some none)) (by kernel_rfl) e)
    · exact ⟨_, mg_of KX T.g (v := .int 127 233) (by kernel_rfl)⟩
    · intro n v e
      have h := of_all (l := builts) (p := fun q => decide (q.1 ≠ "__name__" ∧ bootBuiltins q.1 = some q.2)) (by kernel_rfl) e
      have h := of_decide_eq_true h
      exact (T.builtins n h.1).trans h.2
    · intro a k c dv e
      have h := fnsAll (a, k, c, dv) ?_
      · exact h
      · have : ∀ (l : List (Addr × Nat × Addr × Value)) (a : Addr) (x : Nat × Addr × Value), l.lookup a = some x → (a, x) ∈ l := by
          intro l
          induction l with
          | nil => intro a x h; cases h
          | cons y l ih =>
            intro a x h
            obtain ⟨b, z⟩ := y
            rw [List.lookup_cons] at h
            cases q : a == b with
            | true => rw [q] at h; cases h; rw [beq_iff_eq.mp q]; exact .head _
            | false => rw [q] at h; exact .tail _ (ih a x h)
        exact this _ _ _ e
    · refine ⟨_, _, KX 37 _ rfl, rfl, rfl⟩
    · refine ⟨_, KX 36 _ rfl, rfl⟩
  rename_i hL w1 r0 hi hb
  have t30 : s₁.heap.get? 30 = some (tabObj #[]) := KX 30 _ rfl
  have t77 : s₁.heap.get? 77 = some (tabObj #[]) := KX 77 _ rfl
  have bm : ∀ P : Addr, P ≠ 4 → s₁.heap.BuiltinsAt mg P := fun P hP => ⟨4, _, mg_of KX T.g (v := .ref 4) (by kernel_rfl), by decide, by decide, Ne.symm hP, KX 4 _ rfl, rfl, rfl, rfl⟩
  have lam : LamOk s₁.heap := ⟨⟨_, _, _, _, _, _, _, _, _, KX 81 _ rfl, rfl, rfl, rfl, rfl, rfl, rfl, rfl, rfl, by decide⟩, ⟨#[], t77, trivial, .inl rfl⟩, mg, T.g, bm 77 (by decide)⟩
  have kok : KOk s₁.heap := ⟨⟨_, _, _, _, _, _, _, _, _, KX 34 _ rfl, rfl, rfl, rfl, rfl, rfl, rfl, rfl, rfl, by decide⟩, ⟨#[], t30, trivial, .inl rfl⟩,
    ⟨mg, T.g, bm 30 (by decide), mg_some_of KX T.g (by kernel_rfl), mg_none_of KX T.g (by kernel_rfl), fun tk h => bm tk (fun q => by rw [q] at h; exact absurd h (by decide))⟩,
    ⟨mb, T.b, (T.builtins "object" (by decide)).trans (by kernel_rfl), (T.builtins "__build_class__" (by decide)).trans (by kernel_rfl)⟩, ⟨_, KX 2 _ rfl, rfl⟩, T.nolimit, ⟨_, KX 109 _ rfl⟩⟩
  refine law_walk w s₁ _ top lam kok hg hsz (ints_of_well w1 hL hi) (by omega) t30 t77 _ _ fun s' ok hos hbare => ?_
  exact ⟨.inl ⟨_, _, [], rfl, fun _ => rfl, ReadsW.bool true, by first | with_unfolding_all rfl | wrow_post | kernel_rfl, fun _ => ⟨List.nodup_nil, fun _ hm => (nomatch hm)⟩⟩, ok, hos, hbare⟩
end Mine
end
theorem PySem.Challenge.cw_ny0073_01_holds : PySem.Challenge.rw_ny0073_01.Holds :=
  Mine.head
