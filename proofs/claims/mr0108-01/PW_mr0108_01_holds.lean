import PyProof.Rows.All
import Wide.All
import OpenK.AllK
import Wide.FinOn
import PySem.Challenge.RW_mr0108_01
set_option Elab.async false
set_option maxRecDepth 100000
set_option linter.unusedVariables false

section
open PySem PySem.W PyProof.Rows
namespace Mine
open PySem.Calls

/-- the def that stands at a place of the text -/
def defAt (i : Nat) : DefRec :=
  match PySem.Challenge.pw_mr0108_01.main.body[i]? with
  | some (.FunctionDef name a b _ _ _ sc _ _ pos) => ⟨name, a, b, sc, pos⟩
  | _ => ⟨Str.empty, ⟨[], [], none, [], [], none, []⟩, [], { kind := .function, names := [], isGenerator := false, isCoroutine := false }, ⟨0, 0, 0, 0⟩⟩

def defPlaces : List Nat := [1, 2, 3, 4, 7, 9, 10, 11, 12, 13]
def usedBuiltins : List String := ["type", "set", "len", "sum", "range", "list", "NotImplemented"]

/-- what of the text's top the calls lean on -/
structure Wd (mg mb : Str → Option Value) (h : Heap) : Prop where
  g : h.Ns mainGlobals mg
  b : h.Ns builtinsNs mb
  nolimit : h.NoLimit
  fn : ∀ i ∈ defPlaces, ∃ a o pm cd doc, mg (defAt i).name = some (.ref a) ∧ h.get? a = some o ∧
    o.data = .func (docDef (defAt i).name (defAt i).params (defAt i).body (defAt i).scope pm cd doc) ∧ h.CodeRec cd (defAt i).name
  marker : ∃ t, mg "ELLIPSIS_MARKER" = some (.str "..." t)
  free : ∀ x ∈ usedBuiltins, mg (Str.ofString x) = none
  builtins : ∀ x ∈ usedBuiltins, mb (Str.ofString x) = bootBuiltins (Str.ofString x)

abbrev Stays (h h' : Heap) : Prop := ∀ b o, h.get? b = some o → h'.get? b = some o

theorem Wd.keeps {mg mb : Str → Option Value} {h h' : Heap} (T : Wd mg mb h) (hk : Stays h h') : Wd mg mb h' where
  g := T.g.keeps hk
  b := T.b.keeps hk
  nolimit := T.nolimit.keeps hk
  fn := fun i hi => let ⟨a, o, pm, cd, doc, h1, h2, h3, h4⟩ := T.fn i hi; ⟨a, o, pm, cd, doc, h1, hk _ _ h2, h3, h4.keeps hk⟩
  marker := T.marker
  free := T.free
  builtins := T.builtins

/-- a frame with cells: what it holds, and that all that stood before it stands -/
structure Fm (h₀ : Heap) (L : Addr) (m : Str → Option Value) (cs : List (Str × Addr)) (cm : Str → Option Value) (h : Heap) : Prop where
  ns : h.Ns L m
  keep : Stays h₀ h
  above : h₀.objs.size ≤ L
  cell : ∀ n c, cs.lookup n = some c → h.IsCell c (cm n)
  apart : cs.Pairwise fun x y => x.2 ≠ y.2
  cabove : ∀ n c, (n, c) ∈ cs → L < c

theorem Fm.of {s₀ s : Shared} {L : Addr} {m cm : Str → Option Value} {cs : List (Str × Addr)} (x : InCallC s₀ L m cs cm s) : Fm s₀.heap L m cs cm s.heap :=
  ⟨x.toInCall.ns, x.toInCall.keep, x.toInCall.fresh, x.cell, x.apart, x.above⟩

section
variable {h₀ h h' : Heap} {L : Addr} {m cm : Str → Option Value} {cs : List (Str × Addr)}

theorem Fm.kept (F : Fm h₀ L m cs cm h) (hk : Stays h h') : Fm h₀ L m cs cm h' :=
  ⟨F.ns.keeps hk, fun b o e => hk b o (F.keep b o e), F.above, fun n c hc => (F.cell n c hc).keeps hk, F.apart, F.cabove⟩
theorem Fm.push (F : Fm h₀ L m cs cm h) (o : Obj) : Fm h₀ L m cs cm (h.push o) := F.kept fun _ _ e => Heap.get?_push_of_some _ e
/-- a change at one place that is neither the frame's, nor a cell's, nor an elder one -/
theorem Fm.same (F : Fm h₀ L m cs cm h) {a : Addr} (hs : Heap.SameBut a h h') (haL : L < a) (hac : ∀ n c, (n, c) ∈ cs → c ≠ a) : Fm h₀ L m cs cm h' :=
  ⟨F.ns.sameBut hs (Nat.ne_of_lt haL), fun b o e => (hs.2 b (Nat.ne_of_lt (Nat.lt_trans (Nat.lt_of_lt_of_le (Heap.lt_size e) F.above) haL))).trans (F.keep b o e), F.above,
    fun n c hc => (F.cell n c hc).sameBut hs (hac n c (mem_of_lookup hc)), F.apart, F.cabove⟩
theorem Fm.ext (F : Fm h₀ L m cs cm h) {a : Addr} (hs : Heap.ExtBut a h h') (haL : L < a) (hac : ∀ n c, (n, c) ∈ cs → c ≠ a) : Fm h₀ L m cs cm h' :=
  ⟨F.ns.at' fun o e => hs _ o (Nat.ne_of_lt haL) e, fun b o e => hs b o (Nat.ne_of_lt (Nat.lt_trans (Nat.lt_of_lt_of_le (Heap.lt_size e) F.above) haL)) (F.keep b o e), F.above,
    fun n c hc => let ⟨oc, hoc, hd⟩ := F.cell n c hc; ⟨oc, hs c oc (hac n c (mem_of_lookup hc)) hoc, hd⟩, F.apart, F.cabove⟩
theorem Fm.lt (F : Fm h₀ L m cs cm h) : L < h.objs.size := F.ns.lt
theorem Fm.old (F : Fm h₀ L m cs cm h) {a : Addr} {o : Obj} (e : h₀.get? a = some o) : a < L := Nat.lt_of_lt_of_le (Heap.lt_size e) F.above
theorem Fm.clt (F : Fm h₀ L m cs cm h) {n : Str} {c : Addr} (hc : cs.lookup n = some c) : c < h.objs.size := (F.cell n c hc).lt
end

section
variable {M : Model} {A : Around} {E : Value → Shared → Prop} {s : Shared} {env : Env} {h₀ : Heap} {m cm mg mb : Str → Option Value}

theorem nmL {n : Str} {pos : Pos} {v : Value} {Q : Value → Shared → Prop} (F : Fm h₀ env.locals m env.cells cm s.heap) (hv : m n = some v) (h : Q v s)
    (hk : env.scope.kind = .function := by rfl) (hl : env.kindOf n = some .local := by rfl) (hd : (n == ("__debug__" : Str)) = false := by rfl) :
    wpAny M A (eval (.Name n pos) env) Q E s := wpAny_Name (wpAny_loadName_local hk hl F.ns hv h) hd
theorem nmC {n : Str} {pos : Pos} {c : Addr} {v : Value} {Q : Value → Shared → Prop} (F : Fm h₀ env.locals m env.cells cm s.heap) (hv : cm n = some v) (h : Q v s)
    (hc : env.cells.lookup n = some c := by rfl) (hk : env.scope.kind = .function := by rfl) (hl : env.kindOf n = some .cell := by rfl) (hd : (n == ("__debug__" : Str)) = false := by rfl) :
    wpAny M A (eval (.Name n pos) env) Q E s := wpAny_Name (wpAny_loadName_cell hk hl hc (hv ▸ F.cell n c hc) h) hd
theorem nmG {n : Str} {pos : Pos} {v : Value} {Q : Value → Shared → Prop} (T : Wd mg mb s.heap) (hv : mg n = some v) (h : Q v s)
    (hg : env.globals = mainGlobals := by rfl) (hk : env.scope.kind = .function := by rfl) (hl : env.kindOf n = some .globalImplicit := by rfl) (hd : (n == ("__debug__" : Str)) = false := by rfl) :
    wpAny M A (eval (.Name n pos) env) Q E s := Name_function_global hk hl (loadGlobal_global (hg ▸ T.g) hv h) hd
theorem nmB {n : String} {pos : Pos} {v : Value} {Q : Value → Shared → Prop} (T : Wd mg mb s.heap) (hm : n ∈ usedBuiltins) (hv : bootBuiltins (Str.ofString n) = some v) (h : Q v s)
    (hg : env.globals = mainGlobals := by rfl) (hb : env.builtins = builtinsNs := by rfl) (hk : env.scope.kind = .function := by rfl) (hl : env.kindOf (Str.ofString n) = some .globalImplicit := by rfl)
    (hd : (Str.ofString n == ("__debug__" : Str)) = false := by rfl) :
    wpAny M A (eval (.Name (Str.ofString n) pos) env) Q E s :=
  Name_function_global hk hl (loadGlobal_builtin (hg ▸ T.g) (T.free n hm) (hb ▸ T.b) ((T.builtins n hm).trans hv) h) hd

theorem stL {n : Str} {v : Value} {Q : Unit → Shared → Prop} (F : Fm h₀ env.locals m env.cells cm s.heap)
    (h : ∀ h', Fm h₀ env.locals (fun y => if y = n then some v else m y) env.cells cm h' → Heap.SameBut env.locals s.heap h' → Q () { s with heap := h', toks := s.toks + 1 })
    (hk : env.scope.kind = .function := by rfl) (hl : env.kindOf n = some .local := by rfl) : wpAny M A (storeName env n v) Q E s :=
  wpAny_storeName_local hl F.ns (fun h' hn hs => h h' ⟨hn, fun b o e => (hs.2 b (Nat.ne_of_lt (F.old e))).trans (F.keep b o e), F.above,
    fun k c hc => (F.cell k c hc).sameBut hs (Nat.ne_of_gt (F.cabove k c (mem_of_lookup hc))), F.apart, F.cabove⟩ hs) (by rw [hk]; rfl)

theorem stC {n : Str} {c : Addr} {v : Value} {Q : Unit → Shared → Prop} (F : Fm h₀ env.locals m env.cells cm s.heap)
    (h : ∀ h', Fm h₀ env.locals m env.cells (fun y => if y = n then some v else cm y) h' → Heap.SameBut c s.heap h' → Q () { s with heap := h' })
    (hc : env.cells.lookup n = some c := by rfl) (hk : env.scope.kind = .function := by rfl) (hl : env.kindOf n = some .cell := by rfl) : wpAny M A (storeName env n v) Q E s := by
  have hLc := F.cabove n c (mem_of_lookup hc)
  refine wpAny_storeName_cell hk hl hc (F.cell n c hc) fun h' hc' hs' => h _ ⟨F.ns.sameBut hs' (Nat.ne_of_lt hLc), fun b o e => ?_, F.above, fun k c' hk' => ?_, F.apart, F.cabove⟩ hs'
  · exact hs'.extBut b o (Nat.ne_of_lt (Nat.lt_trans (F.old e) hLc)) (F.keep b o e)
  · by_cases hkn : k = n
    · subst hkn
      rw [hc] at hk'; cases hk'
      simpa using hc'
    · rw [if_neg hkn]
      exact (F.cell k c' hk').sameBut hs' fun e => hkn (name_of_addr F.apart (mem_of_lookup hk') (e ▸ mem_of_lookup hc))
end

end Mine
end

section
open PySem PySem.W PyProof.Rows
namespace Mine
open PySem.Calls

theorem ifT {c : Prop} [Decidable c] {P Q : Prop} (h : c) (p : P) : if c then P else Q := by rw [if_pos h]; exact p
theorem ifF {c : Prop} [Decidable c] {P Q : Prop} (h : ¬ c) (p : Q) : if c then P else Q := by rw [if_neg h]; exact p

/-- room for k more frames -/
structure Rm (A : Around) (k : Nat) : Prop where
  h : A.handled = none
  d : A.depth + k < recursionLimit
  u : A.units + 40 * k < cLine

theorem Rm.mono {A : Around} {k j : Nat} (R : Rm A k) (hj : j ≤ k) : Rm A j := ⟨R.h, by have := R.d; omega, by have := R.u; omega⟩
theorem Rm.deeper {A : Around} {k : Nat} {env : Env} (R : Rm A (k + 1)) : Rm (A.deeper env) k :=
  ⟨R.h, by have := R.d; show A.depth + 1 + k < _; omega, by have := R.u; show A.units + 3 + 40 * k < _; omega⟩
theorem Rm.in1 {A : Around} {k : Nat} (R : Rm A (k + 1)) : Rm A.in1 k :=
  ⟨R.h, by have := R.d; show A.depth + k < _; omega, by have := R.u; show A.units + 1 + 40 * k < _; omega⟩
theorem Rm.room {A : Around} {k : Nat} (R : Rm A k) : A.depth < recursionLimit := by have := R.d; omega
theorem Rm.units {A : Around} {k : Nat} (R : Rm A k) : A.units < cLine := by have := R.u; omega

/-- the block in which a def's body runs -/
def envAt (i : Nat) (L a : Addr) (cd : Value) : Env :=
  { scope := (defAt i).scope, locals := L, globals := mainGlobals, cells := cellsFrom (L + 1) (defAt i).scope.names [],
    qual := (defAt i).name ++ ".<locals>.", func := some a, code := cd, frame := some L, builtins := builtinsNs }

section
variable {prog : Program} {w : World} {A : Around} {E : Value → Shared → Prop} {s : Shared} {mg mb : Str → Option Value}

theorem callDef (i : Nat) {a : Addr} {vals : List Value} {binds : List (Str × Value)} {Q : Value → Shared → Prop}
    (T : Wd mg mb s.heap) (hi : i ∈ defPlaces) (ha : mg (defAt i).name = some (.ref a)) (hroom : A.depth < recursionLimit)
    (hbind : ∀ pm cd doc, bindArgs (docDef (defAt i).name (defAt i).params (defAt i).body (defAt i).scope pm cd doc) ⟨vals, []⟩ = pure binds)
    (hkind : ∀ x ∈ binds, (defAt i).scope.names.lookup x.1 = some .local ∨ ((defAt i).scope.names.lookup x.1 = some .cell ∧ ((cellsFrom (s.heap.objs.size + 1) (defAt i).scope.names []).lookup x.1).isSome = true))
    (h : ∀ L cd h₁ tk, L = s.heap.objs.size → Fm s.heap L (bindL (envAt i L a cd).kindOf binds fun _ => none) (envAt i L a cd).cells (bindC (envAt i L a cd).kindOf binds fun _ => none) h₁ →
      wpAny (model prog w) (A.deeper (envAt i L a cd)) (execs (defAt i).body (envAt i L a cd)) (fun f s' => Q (match f with | .ret v => v | _ => .none) s') (fun _ _ => False) { s with heap := h₁, toks := tk })
    (hco : (defAt i).scope.isCoroutine = false := by rfl) (hgen : (defAt i).scope.isGenerator = false := by rfl) (hk : (defAt i).scope.kind = .function := by rfl) :
    wpAny (model prog w) A (call (.ref a) vals) Q E s := by
  obtain ⟨a', o, pm, cd, doc, h1, h2, h3, h4⟩ := T.fn i hi
  rw [ha] at h1
  cases h1
  refine wpAny_call (codeAny_call_cells hroom h2 h3 T.nolimit h4 rfl (hbind pm cd doc) rfl hkind (fun s₁ x => ?_) hco hgen hk)
  have F := Fm.of x
  obtain ⟨h₁, tk, rfl⟩ := x.toInCall.same
  exact wpAny_mono (h _ cd h₁ tk rfl F) (fun f s' hq => hq) fun _ _ f => f.elim

/-- a for over whatever walks, by an invariant; nothing raises -/
theorem forWalk {Q : Flow → Shared → Prop} {x : Str} {px : Pos} {body : List Stmt} {env : Env} {I : Addr} {fp wr : List Addr} {n : Nat} {P : Nat → Value → Prop} {St : Nat → Heap → Prop}
    (W : Walks prog w A I fp wr n P St) (Inv : Nat → Shared → Prop) {s₂ : Shared} (h0 : Inv 0 s₂) (hst : ∀ i s, Inv i s → St i s.heap)
    (turn : ∀ i v (s : Shared) h' tk, i < n → Inv i s → P i v → St (i + 1) h' → (∀ b o, b ∉ wr → s.heap.get? b = some o → h'.get? b = some o) →
      wpAny (model prog w) A (storeName env x v) (fun _ s₂ => wpAny (model prog w) A (execs body env) (fun f s₃ => match f with
        | .next | .cont => Inv (i + 1) s₃
        | .brk => Q .next s₃
        | .ret v => Q (.ret v) s₃) (fun _ _ => False) s₂) (fun _ _ => False) { s with heap := h', toks := tk })
    (fin : ∀ (s : Shared) h' tk, Inv n s → (∀ b o, b ∉ wr → s.heap.get? b = some o → h'.get? b = some o) → Q .next { s with heap := h', toks := tk }) :
    codeAny (model prog w) A (.forLoop (.Name x px) (.ref I) body [] env) (fun r s' => match r with | .ok f => Q f s' | .error e => cameBackBy (model prog w) A env E e s') s₂ := by
  have key : ∀ k s, (∃ i, i ≤ n ∧ k = n - i ∧ Inv i s) → wpAny (model prog w) A (pyNext (.ref I)) (fun r s₁ => match r with
      | none => wpAny (model prog w) A (execs [] env) (fun f s₃ => Q f s₃) (fun _ _ => False) s₁
      | some v => wpAny (model prog w) A (assign (.Name x px) env v) (fun _ s₂ => wpAny (model prog w) A (execs body env) (fun f s₃ => match f with
          | .next | .cont => ∃ m, m < k ∧ ∃ i, i ≤ n ∧ m = n - i ∧ Inv i s₃
          | .brk => Q .next s₃
          | .ret v => Q (.ret v) s₃) (fun _ _ => False) s₂) (fun _ _ => False) s₁) (fun _ _ => False) s := by
    rintro k s ⟨i, hi, rfl, hI⟩
    by_cases hlt : i < n
    · refine W.item i s _ _ hlt (hst i s hI) fun v h' tk hP hst' hk => ?_
      refine wpAny_assign_Name (wpAny_mono (turn i v s h' tk hlt hI hP hst' hk) (fun _ s₂ h₂ => wpAny_mono h₂ (fun f s₃ h₃ => ?_) fun _ _ e => e) fun _ _ e => e)
      cases f with
      | next => exact ⟨n - (i + 1), by omega, i + 1, by omega, rfl, h₃⟩
      | cont => exact ⟨n - (i + 1), by omega, i + 1, by omega, rfl, h₃⟩
      | brk => exact h₃
      | ret v => exact h₃
    · have hin : i = n := by omega
      subst hin
      exact W.done s _ _ (hst i s hI) fun h' tk hk => wpAny_execs_nil (fin s h' tk hI hk)
  refine codeAny_forLoop (fun k s => ∃ i, i ≤ n ∧ k = n - i ∧ Inv i s) (fun k s hI => ?_) n ⟨0, Nat.zero_le _, by omega, h0⟩
  refine wpAny_mono (key k s hI) (fun r s₁ h₁ => ?_) fun _ _ f => f.elim
  cases r with
  | none => exact wpAny_mono h₁ (fun _ _ h => h) fun _ _ f => f.elim
  | some v =>
    refine wpAny_mono h₁ (fun _ s₂ h₂ => wpAny_mono h₂ (fun f s₃ h₃ => ?_) fun _ _ f => f.elim) fun _ _ f => f.elim
    cases f <;> exact h₃
end

end Mine
end

section
open PySem PySem.W PyProof.Rows
namespace Mine
open PySem.Calls Builtin Builtin.Str

theorem b_type : bootBuiltins (Str.ofString "type") = some (.type "type") := by decide +kernel
theorem b_set : bootBuiltins (Str.ofString "set") = some (.type "set") := by decide +kernel
theorem b_len : bootBuiltins (Str.ofString "len") = some (.builtin "len") := by decide +kernel
theorem b_sum : bootBuiltins (Str.ofString "sum") = some (.builtin "sum") := by decide +kernel
theorem b_range : bootBuiltins (Str.ofString "range") = some (.type "range") := by decide +kernel
theorem b_list : bootBuiltins (Str.ofString "list") = some (.type "list") := by decide +kernel
theorem b_ni : bootBuiltins (Str.ofString "NotImplemented") = some .notImplemented := by decide +kernel

theorem wpAny_release {M : Model} {A : Around} {E : Value → Shared → Prop} {s : Shared} {vs ks : List Value} {Q : Unit → Shared → Prop} (h : Q () s) : wpAny M A (release vs ks) Q E s :=
  fun Γ p _ => by rw [Sem.wp_release]; exact h

section
variable {prog : Program} {w : World} {A : Around} {E : Value → Shared → Prop} {s : Shared} {env : Env} {mg mb : Str → Option Value} {Q : Value → Shared → Prop}

/-- a built-in function of one argument, called by its name -/
theorem callB1 {n id : String} {np pos : Pos} {e : Expr} (T : Wd mg mb s.heap) (hv : bootBuiltins (Str.ofString n) = some (.builtin id))
    (h : wpAny (model prog w) A (eval e env) (fun v s₁ => wpAny (model prog w) A (call (.builtin id) [v]) Q E s₁) E s)
    (hm : n ∈ usedBuiltins := by decide)
    (hs : starEach [e] env = [(false, eval e env)] := by rfl)
    (hg : env.globals = mainGlobals := by rfl) (hb : env.builtins = builtinsNs := by rfl) (hk : env.scope.kind = .function := by rfl) (hl : env.kindOf (Str.ofString n) = some .globalImplicit := by rfl)
    (hd : (Str.ofString n == ("__debug__" : Str)) = false := by rfl) :
    wpAny (model prog w) A (eval (.Call (.Name (Str.ofString n) np) [e] [] pos) env) Q E s := by
  refine wpAny_Call_ofName (nmB T hm hv ?_ hg hb hk hl hd)
  rw [hs]
  exact callWith_builtin rfl (evalArgs_plain (spliced_cons (wpAny_mono h (fun v s₁ h₁ => spliced_nil h₁) fun _ _ e => e)))

/-- a class called by its name, one argument -/
theorem callT1 {n id : String} {np pos : Pos} {e : Expr} (T : Wd mg mb s.heap) (hv : bootBuiltins (Str.ofString n) = some (.type id))
    (h : wpAny (model prog w) A (eval e env) (fun v s₁ => wpAny (model prog w) A (call (.type id) [v]) Q E s₁) E s)
    (hm : n ∈ usedBuiltins := by decide)
    (hs : starEach [e] env = [(false, eval e env)] := by rfl)
    (hg : env.globals = mainGlobals := by rfl) (hb : env.builtins = builtinsNs := by rfl) (hk : env.scope.kind = .function := by rfl) (hl : env.kindOf (Str.ofString n) = some .globalImplicit := by rfl)
    (hd : (Str.ofString n == ("__debug__" : Str)) = false := by rfl) :
    wpAny (model prog w) A (eval (.Call (.Name (Str.ofString n) np) [e] [] pos) env) Q E s := by
  refine wpAny_Call_ofName (nmB T hm hv ?_ hg hb hk hl hd)
  rw [hs]
  exact callWith_excType rfl (evalArgs_plain (spliced_cons (wpAny_mono h (fun v s₁ h₁ => spliced_nil h₁) fun _ _ e => e)))
theorem callT2 {n id : String} {np pos : Pos} {e f : Expr} (T : Wd mg mb s.heap) (hv : bootBuiltins (Str.ofString n) = some (.type id))
    (h : wpAny (model prog w) A (eval e env) (fun v s₁ => wpAny (model prog w) A (eval f env) (fun v' s₂ => wpAny (model prog w) A (call (.type id) [v, v']) Q E s₂) E s₁) E s)
    (hm : n ∈ usedBuiltins := by decide)
    (hs : starEach [e, f] env = [(false, eval e env), (false, eval f env)] := by rfl)
    (hg : env.globals = mainGlobals := by rfl) (hb : env.builtins = builtinsNs := by rfl) (hk : env.scope.kind = .function := by rfl) (hl : env.kindOf (Str.ofString n) = some .globalImplicit := by rfl)
    (hd : (Str.ofString n == ("__debug__" : Str)) = false := by rfl) :
    wpAny (model prog w) A (eval (.Call (.Name (Str.ofString n) np) [e, f] [] pos) env) Q E s := by
  refine wpAny_Call_ofName (nmB T hm hv ?_ hg hb hk hl hd)
  rw [hs]
  exact callWith_excType rfl (evalArgs_plain (spliced_cons (wpAny_mono h (fun v s₁ h₁ => spliced_cons (wpAny_mono h₁ (fun v' s₂ h₂ => spliced_nil h₂) fun _ _ e => e)) fun _ _ e => e)))

/-- a def of the text, called by its name, two arguments -/
theorem callF2 (i : Nat) {np pos : Pos} {e f : Expr} {a : Addr} (T : Wd mg mb s.heap) (hi : i ∈ defPlaces) (ha : mg (defAt i).name = some (.ref a))
    (h : wpAny (model prog w) A (eval e env) (fun v s₁ => wpAny (model prog w) A (eval f env) (fun v' s₂ => Stays s.heap s₂.heap ∧ wpAny (model prog w) A (call (.ref a) [v, v']) Q E s₂) E s₁) E s)
    (hs : starEach [e, f] env = [(false, eval e env), (false, eval f env)] := by rfl)
    (hg : env.globals = mainGlobals := by rfl) (hk : env.scope.kind = .function := by rfl) (hl : env.kindOf (defAt i).name = some .globalImplicit := by rfl)
    (hd : ((defAt i).name == ("__debug__" : Str)) = false := by rfl) :
    wpAny (model prog w) A (eval (.Call (.Name (defAt i).name np) [e, f] [] pos) env) Q E s := by
  obtain ⟨a', o, pm, cd, doc, h1, h2, h3, h4⟩ := T.fn i hi
  rw [ha] at h1; cases h1
  refine wpAny_Call_ofName (nmG T ha ?_ hg hk hl hd)
  rw [hs]
  exact callWith_function (evalArgs_plain (spliced_cons (wpAny_mono h (fun v s₁ h₁ => spliced_cons (wpAny_mono h₁ (fun v' s₂ h₂ => spliced_nil ⟨⟨h₂.1 _ _ h2, h3⟩, h₂.2⟩) fun _ _ e => e)) fun _ _ e => e)))
theorem callF1 (i : Nat) {np pos : Pos} {e : Expr} {a : Addr} (T : Wd mg mb s.heap) (hi : i ∈ defPlaces) (ha : mg (defAt i).name = some (.ref a))
    (h : wpAny (model prog w) A (eval e env) (fun v s₁ => Stays s.heap s₁.heap ∧ wpAny (model prog w) A (call (.ref a) [v]) Q E s₁) E s)
    (hs : starEach [e] env = [(false, eval e env)] := by rfl)
    (hg : env.globals = mainGlobals := by rfl) (hk : env.scope.kind = .function := by rfl) (hl : env.kindOf (defAt i).name = some .globalImplicit := by rfl)
    (hd : ((defAt i).name == ("__debug__" : Str)) = false := by rfl) :
    wpAny (model prog w) A (eval (.Call (.Name (defAt i).name np) [e] [] pos) env) Q E s := by
  obtain ⟨a', o, pm, cd, doc, h1, h2, h3, h4⟩ := T.fn i hi
  rw [ha] at h1; cases h1
  refine wpAny_Call_ofName (nmG T ha ?_ hg hk hl hd)
  rw [hs]
  exact callWith_function (evalArgs_plain (spliced_cons (wpAny_mono h (fun v s₁ h₁ => spliced_nil ⟨⟨h₁.1 _ _ h2, h3⟩, h₁.2⟩) fun _ _ e => e)))

theorem delSub {o i : Expr} {pos : Pos} {Q : Unit → Shared → Prop}
    (h : wpAny (model prog w) A (eval o env) (fun ov s₁ => wpAny (model prog w) A (eval i env) (fun iv s₂ => wpAny (model prog w) A (delItem ov iv) Q E s₂) E s₁) E s) :
    wpAny (model prog w) A (delete (.Subscript o i pos) env) Q E s := by
  rw [arm_delete_Subscript]
  exact wpAny_bind (wpAny_mono h (fun ov s₁ h₁ => wpAny_bind (wpAny_holding (wpAny_mono h₁ (fun iv s₂ h₂ => wpAny_bind (wpAny_standAt (wpAny_bind (wpAny_holding (wpAny_mono h₂ (fun _ s₃ h₃ => wpAny_release h₃) fun _ _ e => e))))) fun _ _ e => e))) fun _ _ e => e)

/-- an item of a list -/
theorem itemL {value slice : Expr} {l : Addr} {items : Array Value} {k : Int} {u : Tok} {v : Value} (hl : s.heap.IsList l items) (h0 : 0 ≤ k) (hhi : k < 2 ^ 63) (hx : items[k.toNat]? = some v) (h : Q v s)
    (hs : subscripted slice false (.ref l) (.int k u) = operate [.ref l, .int k u] (getItem (.ref l) (.int k u)) := by with_unfolding_all rfl) :
    wpAny (model prog w) A (subscriptTail value slice (.ref l) (.int k u)) Q E s :=
  item_litK (vs := items.toList) (by simpa using hl) h0 hhi (by simpa using hx) h hs
end

section
variable {prog : Program} {w : World} {A : Around} {E : Value → Shared → Prop} {s : Shared} {name : Str} {id : String} {x : Str} {t : Tok} {pos : Pos} {a b c : Sem Value} {Q : Value → Shared → Prop}
theorem methS1 (slot : Slot "str" name id) (ty : typeOf (.builtin id) = pure (.type "method_descriptor"))
    (h : wpAny (model prog w) A a (fun v s₁ => wpAny (model prog w) A (call (.builtin id) [.str x t, v]) Q E s₁) E s) :
    MethodOnS prog w A E name (.str x t) pos [(false, a)] Q s :=
  ⟨"str", id, F.plainAttrs_str, slot, ty, typeIs_str _ _ _, (fun _ e => nomatch e), callWith_builtin rfl (evalArgs_plain (spliced_cons (wpAny_mono h (fun v s₁ h₁ => spliced_nil h₁) fun _ _ e => e)))⟩
theorem methS2 (slot : Slot "str" name id) (ty : typeOf (.builtin id) = pure (.type "method_descriptor"))
    (h : wpAny (model prog w) A a (fun v s₁ => wpAny (model prog w) A b (fun v' s₂ => wpAny (model prog w) A (call (.builtin id) [.str x t, v, v']) Q E s₂) E s₁) E s) :
    MethodOnS prog w A E name (.str x t) pos [(false, a), (false, b)] Q s :=
  ⟨"str", id, F.plainAttrs_str, slot, ty, typeIs_str _ _ _, (fun _ e => nomatch e), callWith_builtin rfl (evalArgs_plain (spliced_cons (wpAny_mono h (fun v s₁ h₁ => spliced_cons (wpAny_mono h₁ (fun v' s₂ h₂ => spliced_nil h₂) fun _ _ e => e)) fun _ _ e => e)))⟩
theorem methS3 (slot : Slot "str" name id) (ty : typeOf (.builtin id) = pure (.type "method_descriptor"))
    (h : wpAny (model prog w) A a (fun v s₁ => wpAny (model prog w) A b (fun v' s₂ => wpAny (model prog w) A c (fun v'' s₃ => wpAny (model prog w) A (call (.builtin id) [.str x t, v, v', v'']) Q E s₃) E s₂) E s₁) E s) :
    MethodOnS prog w A E name (.str x t) pos [(false, a), (false, b), (false, c)] Q s :=
  ⟨"str", id, F.plainAttrs_str, slot, ty, typeIs_str _ _ _, (fun _ e => nomatch e), callWith_builtin rfl (evalArgs_plain (spliced_cons (wpAny_mono h (fun v s₁ h₁ => spliced_cons (wpAny_mono h₁ (fun v' s₂ h₂ =>
    spliced_cons (wpAny_mono h₂ (fun v'' s₃ h₃ => spliced_nil h₃) fun _ _ e => e)) fun _ _ e => e)) fun _ _ e => e)))⟩
end

def fromIdx (len : Nat) (i : Int) : Nat := (max 0 (if i < 0 then i + len else i)).toNat
def find4 (x y : Str) (i j : Int) : Int := match occurrences x y (fromIdx x.length i) (min (fromIdx x.length j) x.length) 1 with | k :: _ => (k : Int) | [] => -1
theorem gives_find4 (x y : Str) (i j : Int) (t u v v' : Tok) : Gives («str.find» ⟨[.str x t, .str y u, .int i v, .int j v'], []⟩) (.int (find4 x y i j)) := by
  show Gives (match occurrences x y (fromIdx x.length i) (min (fromIdx x.length j) x.length) 1 with | k :: _ => retInt k | [] => (do rule "str.find.not-found"; retInt (-1))) _
  unfold find4
  cases occurrences x y (fromIdx x.length i) (min (fromIdx x.length j) x.length) 1 with
  | nil => exact .rule (.of_eq rfl)
  | cons k _ => exact .of_eq rfl
theorem call_find4 {prog : Program} {w : World} {A : Around} {E : Value → Shared → Prop} {s : Shared} {x y : Str} {i j : Int} {t u v v' : Tok} {Q : Value → Shared → Prop}
    (hq : Q (.int (find4 x y i j) s.toks) { s with toks := s.toks + 1 }) : wpAny (model prog w) A (call (.builtin "str.find") [.str x t, .str y u, .int i v, .int j v']) Q E s :=
  call_gives F.slot_str_find (typeIs_str _ _ _) F.entry_str_find (F.args_str_find_4 _ _ _ _) (gives_find4 x y i j t u v v') hq
end Mine
end

section
open PySem PySem.W PyProof.Rows
namespace Mine
open PySem.Calls Builtin Builtin.Str

def dots : Str := "..."

def ellFind (got : Str) (hi : Int) : Int → List Str → Bool
  | _, [] => true
  | lo, w :: r => if find4 got w lo hi < 0 then false else ellFind got hi (find4 got w lo hi + w.length) r

def ell3 (got : Str) (lo hi : Int) (ws : List Str) : Bool := if lo > hi then false else ellFind got hi lo ws
def ell2 (got : Str) (lo hi : Int) (ws : List Str) : Bool :=
  if ((ws.getLastD Str.empty).length : Int) != 0 then
    (if Txt.endswith got (ws.getLastD Str.empty) then ell3 got lo (hi - (ws.getLastD Str.empty).length) ws.dropLast else false)
  else ell3 got lo hi ws
def ell1 (got : Str) (ws : List Str) : Bool :=
  if ((ws.headD Str.empty).length : Int) != 0 then
    (if Txt.startswith got (ws.headD Str.empty) then ell2 got (ws.headD Str.empty).length got.length ws.tail else false)
  else ell2 got 0 got.length ws
def ellV (want got : Str) : Bool :=
  if Txt.contains want dots then ell1 got (Txt.split want dots) else (want.cps.toList == got.cps.toList)

def Ends (h₀ : Heap) (s : Shared) (v : Value) (f : Flow) (s' : Shared) : Prop :=
  f = .ret v ∧ ∃ h' tk, s' = { s with heap := h', toks := tk } ∧ Stays h₀ h'

section
variable {prog : Program} {w : World} {A : Around} {s : Shared} {mg mb : Str → Option Value} {h₀ : Heap} {L a D : Addr} {cd : Value} {m cm : Str → Option Value}
  {got : Str} {tg : Tok} {lo hi : Int} {tl th : Tok}

theorem strValues_get {l : List (Str × Tok)} {i : Nat} {v : Value} (h : (strValues l).toArray[i]? = some v) : ∃ x, l[i]? = some x ∧ v = .str x.1 x.2 := by
  have h' : (strValues l)[i]? = some v := by simpa using h
  unfold strValues at h'
  rw [List.getElem?_map] at h'
  cases hx : l[i]? with
  | none => rw [hx] at h'; cases h'
  | some x => rw [hx] at h'; exact ⟨x, rfl, by simpa using h'.symm⟩

set_option maxHeartbeats 4000000 in
theorem ell_part3 (R : Rm A 0) (F : Fm h₀ L m (envAt 7 L a cd).cells cm s.heap) (T : Wd mg mb h₀) {l : List (Str × Tok)} (hD : s.heap.PlainList D (strValues l).toArray) (hLD : L < D)
    (hg : m "got" = some (.str got tg)) (hlo : m "startpos" = some (.int lo tl)) (hhi : m "endpos" = some (.int hi th)) (hws : m "ws" = some (.ref D)) (hsz : ∀ x ∈ l, x.1.length < 2 ^ 62) {b : Bool} (hb : b = ell3 got lo hi (l.map (·.1))) :
    wpAny (model prog w) A (execs ((defAt 7).body.drop 8) (envAt 7 L a cd)) (Ends h₀ s (.bool b)) (fun _ _ => False) s := by
  refine wpAny_execs_cons (wpAny_If (wpAny_isTrue_Compare1 ?_))
  refine nmL F hlo ?_
  refine nmL F hhi ?_
  refine gt_int (wpAny_truthy_bool ?_)
  by_cases hgt : hi < lo
  · refine ifT (by simpa using hgt) ?_
    refine wpAny_execs_cons (wpAny_Return_some (wpAny_Constant_bool ?_))
    have e : b = false := by rw [hb]; unfold ell3; rw [if_pos hgt]
    subst e
    exact ⟨rfl, _, _, rfl, F.keep⟩
  · refine ifF (by simpa using hgt) ?_
    refine wpAny_execs_nil ?_
    have e : b = ellFind got hi lo (l.map (·.1)) := by rw [hb]; unfold ell3; rw [if_neg hgt]
    refine wpAny_execs_cons (wpAny_For ?_)
    refine nmL F hws ?_
    refine wpAny_pyIter_list hD.isList ?_
    have hDlt : D < s.heap.objs.size := by obtain ⟨_, e, _⟩ := hD.isList; exact Heap.lt_size e
    refine forWalk (Walks.list R.h s.heap.objs.size D (Nat.ne_of_lt hDlt) (strValues l).toArray)
      (fun i s' => ∃ h' tk m' lo' tl', s' = { s with heap := h', toks := tk } ∧ Fm h₀ L m' (envAt 7 L a cd).cells cm h' ∧ h'.IsListIter s.heap.objs.size D i ∧ h'.IsList D (strValues l).toArray ∧
        m' "got" = some (.str got tg) ∧ m' "startpos" = some (.int lo' tl') ∧ m' "endpos" = some (.int hi th) ∧ b = ellFind got hi lo' ((l.drop i).map (·.1))) ?_ ?_ ?_ ?_
    · exact ⟨_, _, m, lo, tl, rfl, F.push _, ⟨_, Heap.get?_push_size _ rfl, rfl, rfl⟩, hD.isList.push _, hg, hlo, hhi, e⟩
    · rintro i s' ⟨h', tk, m', lo', tl', rfl, _, h1, h2, _⟩
      exact ⟨h1, h2⟩
    · rintro i v s' h'' tk' hin ⟨h', tk, m', lo', tl', rfl, F', hit, hl, hg', hlo', hhi', hEq⟩ hP hst hk
      have hLI : L < s.heap.objs.size := Nat.lt_trans hLD hDlt
      have F1 : Fm h₀ L m' (envAt 7 L a cd).cells cm h'' := F'.ext (a := s.heap.objs.size) (fun b o hb e => hk b o (by simpa using hb) e) hLI (fun n c hc => nomatch hc)
      obtain ⟨x, hx, rfl⟩ := strValues_get hP
      have hxl : x.1.length < 2 ^ 62 := hsz x (List.mem_of_getElem? hx)
      refine stL F1 fun h2 F2 S2 => ?_
      refine wpAny_execs_cons (wpAny_Assign_Name ?_)
      refine wpAny_Call_method_lateS rfl rfl rfl (nmL F2 (by exact hg') ?_)
      refine methS3 PySem.F.slot_str_find PySem.F.type_str_find ?_
      refine nmL F2 rfl ?_
      refine nmL F2 (by exact hlo') ?_
      refine nmL F2 (by exact hhi') ?_
      refine call_find4 ?_
      refine stL F2 fun h3 F3 S3 => ?_
      refine wpAny_execs_cons (wpAny_If (wpAny_isTrue_Compare1 ?_))
      refine nmL F3 rfl ?_
      refine wpAny_Constant_int ?_
      refine lt_int (wpAny_truthy_bool ?_)
      have hd : (l.drop i).map (·.1) = x.1 :: (l.drop (i + 1)).map (·.1) := by
        have hi' : i < l.length := by simpa [strValues] using hin
        rw [List.drop_eq_getElem_cons hi']
        have : l[i] = x := by rw [List.getElem?_eq_getElem hi'] at hx; exact Option.some.inj hx
        rw [this]; rfl
      by_cases hneg : find4 got x.1 lo' hi < 0
      · refine ifT (by simpa using hneg) ?_
        refine wpAny_execs_cons (wpAny_Return_some (wpAny_Constant_bool ?_))
        have e : b = false := by rw [hEq, hd]; unfold ellFind; rw [if_pos hneg]
        subst e
        exact ⟨rfl, _, _, rfl, F3.keep⟩
      · refine ifF (by simpa using hneg) ?_
        refine wpAny_execs_nil ?_
        refine wpAny_execs_cons (wpAny_AugAssign_Name ?_)
        refine wpAny_loadName_local rfl rfl F3.ns rfl ?_
        refine callB1 (T.keeps F3.keep) b_len ?_
        refine nmL F3 rfl ?_
        refine P.len_str (by have := hxl; omega) ?_
        refine iadd_int ?_
        refine stL F3 fun h4 F4 S4 => ?_
        refine wpAny_execs_nil ?_
        have hDL : D ≠ L := Nat.ne_of_gt hLD
        have hIL : s.heap.objs.size ≠ L := Nat.ne_of_gt hLI
        refine ⟨h4, _, _, _, _, rfl, F4, ?_, ?_, by exact hg', rfl, by exact hhi', ?_⟩
        · exact ((hst.1.extBut S2.extBut hIL).extBut S3.extBut hIL).extBut S4.extBut hIL
        · exact ((hst.2.extBut S2.extBut hDL).extBut S3.extBut hDL).extBut S4.extBut hDL
        · rw [hEq, hd]
          conv => lhs; unfold ellFind
          rw [if_neg hneg]
    · rintro s' h'' tk' ⟨h', tk, m', lo', tl', rfl, F', hit, hl, hg', hlo', hhi', hEq⟩ hk
      have hLI : L < s.heap.objs.size := Nat.lt_trans hLD hDlt
      have F1 : Fm h₀ L m' (envAt 7 L a cd).cells cm h'' := F'.ext (a := s.heap.objs.size) (fun b o hb e => hk b o (by simpa using hb) e) hLI (fun n c hc => nomatch hc)
      refine wpAny_execs_cons (wpAny_Return_some (wpAny_Constant_bool ?_))
      have : (l.drop (strValues l).toArray.size).map (·.1) = [] := by simp [strValues]
      rw [this] at hEq
      have e : b = true := hEq
      subst e
      exact ⟨rfl, _, _, rfl, F1.keep⟩
end
end Mine

namespace Mine
open PySem.Calls Builtin Builtin.Str
section
variable {prog : Program} {w : World} {A : Around} {s : Shared} {mg mb : Str → Option Value} {h₀ : Heap} {L a D : Addr} {cd : Value} {m cm : Str → Option Value}
  {got : Str} {tg : Tok} {lo hi : Int} {tl th : Tok}

theorem itemLneg {E : Value → Shared → Prop} {Q : Value → Shared → Prop} {value slice : Expr} {l : Addr} {items : Array Value} {k : Int} {u : Tok} {v : Value} (hl : s.heap.IsList l items) (h0 : k < 0) (h1 : -(items.size : Int) ≤ k)
    (hhi : -(2 ^ 63) ≤ k) (hx : items[(k + items.size).toNat]? = some v) (h : Q v s)
    (hs : subscripted slice false (.ref l) (.int k u) = operate [.ref l, .int k u] (getItem (.ref l) (.int k u)) := by with_unfolding_all rfl) :
    wpAny (model prog w) A (subscriptTail value slice (.ref l) (.int k u)) Q E s :=
  tail_any hl.typeIs slot_list_getitem.lookup (wpAny_getItem_list_neg hl h0 h1 hhi hx h) hs

theorem PlainList.sameBut {h h' : Heap} {a b : Addr} {items : Array Value} (x : h.PlainList a items) (hs : Heap.SameBut b h h') (hab : a ≠ b) : h'.PlainList a items :=
  let ⟨n, ho⟩ := x; ⟨n, (hs.2 a hab).trans ho⟩

theorem strValues_dropLast (l : List (Str × Tok)) : strValues l.dropLast = (strValues l).dropLast := by unfold strValues; rw [List.map_dropLast]
theorem strValues_tail (l : List (Str × Tok)) : strValues l.tail = (strValues l).tail := by unfold strValues; rw [List.map_tail]

theorem erase_last {l : List (Str × Tok)} (hl : l ≠ []) : (strValues l).toArray.eraseIdxIfInBounds (l.length - 1) = (strValues l.dropLast).toArray := by
  have hlen : (strValues l).length = l.length := by simp [strValues]
  have hpos : 0 < l.length := List.length_pos_iff.mpr hl
  rw [strValues_dropLast]
  apply Array.toList_inj.mp
  have : ((strValues l).toArray.eraseIdxIfInBounds (l.length - 1)).toList = (strValues l).eraseIdx (l.length - 1) := by simp
  rw [this, List.dropLast_eq_take, hlen, List.eraseIdx_eq_take_drop_succ, show l.length - 1 + 1 = (strValues l).length by omega, List.drop_length, List.append_nil]
theorem erase_first {l : List (Str × Tok)} : (strValues l).toArray.eraseIdxIfInBounds 0 = (strValues l.tail).toArray := by
  rw [strValues_tail]
  apply Array.toList_inj.mp
  have : ((strValues l).toArray.eraseIdxIfInBounds 0).toList = (strValues l).eraseIdx 0 := by simp
  rw [this]; cases strValues l <;> rfl

theorem seqIndex_last {n : Nat} (h : 0 < n) : seqIndex? (-1) n = some (n - 1) := by
  unfold seqIndex?
  have h1 : ((if (-1 : Int) < 0 then (-1 : Int) + n else -1)) = (n : Int) - 1 := by rw [if_pos (by decide)]; omega
  simp only [h1]
  rw [if_pos (by simp; omega)]
  congr 1; omega

set_option maxHeartbeats 4000000 in
theorem ell_part2 (R : Rm A 0) (F : Fm h₀ L m (envAt 7 L a cd).cells cm s.heap) (T : Wd mg mb h₀) {l : List (Str × Tok)} (hD : s.heap.PlainList D (strValues l).toArray) (hLD : L < D) (hne : l ≠ []) (hls : l.length ≤ 1000)
    (hg : m "got" = some (.str got tg)) (hlo : m "startpos" = some (.int lo tl)) (hhi : m "endpos" = some (.int hi th)) (hws : m "ws" = some (.ref D)) (hsz : ∀ x ∈ l, x.1.length < 2 ^ 62) {b : Bool} (hb : b = ell2 got lo hi (l.map (·.1))) :
    wpAny (model prog w) A (execs ((defAt 7).body.drop 6) (envAt 7 L a cd)) (Ends h₀ s (.bool b)) (fun _ _ => False) s := by
  have hpos : 0 < l.length := List.length_pos_iff.mpr hne
  have hsize : (strValues l).toArray.size = l.length := by simp [strValues]
  have hDL : D ≠ L := Nat.ne_of_gt hLD
  obtain ⟨x, hx⟩ : ∃ x, l[l.length - 1]? = some x := ⟨l[l.length - 1]'(by omega), List.getElem?_eq_getElem (by omega)⟩
  have hlast : (l.map (·.1)).getLastD Str.empty = x.1 := by
    rw [List.getLastD_eq_getLast?, List.getLast?_eq_getElem?, List.length_map, List.getElem?_map, hx]; rfl
  have hxl : x.1.length < 2 ^ 62 := hsz x (List.mem_of_getElem? hx)
  refine wpAny_execs_cons (wpAny_Assign_Name (Subscript_ ?_))
  refine nmL F hws ?_
  refine wpAny_UnaryOp (wpAny_Constant_int (neg_int ?_))
  refine itemLneg (v := .str x.1 x.2) hD.isList (by decide) (by rw [hsize]; omega) (by decide) ?_ ?_
  · rw [hsize]
    have : ((-1 : Int) + l.length).toNat = l.length - 1 := by omega
    rw [this]
    simp [strValues, hx]
  refine stL F fun h2 F2 S2 => ?_
  have hD2 := PlainList.sameBut hD S2 hDL
  refine wpAny_execs_cons (wpAny_If (wpAny_isTrue_value (nmL F2 rfl ?_)))
  refine P.truthy_str (by have := hxl; omega) ?_
  by_cases h0 : ((x.1.length : Int) != 0) = true
  · refine ifT h0 ?_
    refine wpAny_execs_cons (wpAny_If (wpAny_isTrue_value ?_))
    refine wpAny_Call_method_lateS rfl rfl rfl (nmL F2 (by exact hg) ?_)
    refine methS1 PySem.F.slot_str_endswith PySem.F.type_str_endswith ?_
    refine nmL F2 rfl ?_
    refine SC.endswith (wpAny_truthy_bool ?_)
    by_cases he : Txt.endswith got x.1 = true
    case neg =>
      refine ifF he ?_
      replace he : Txt.endswith got x.1 = false := by simpa using he
      refine wpAny_execs_cons (wpAny_Return_some (wpAny_Constant_bool ?_))
      have e : b = false := by rw [hb]; unfold ell2; rw [hlast, if_pos h0, he]; rfl
      subst e
      exact ⟨rfl, _, _, rfl, F2.keep⟩
    case pos =>
      refine ifT he ?_
      refine wpAny_execs_cons (wpAny_AugAssign_Name ?_)
      refine wpAny_loadName_local rfl rfl F2.ns (by exact hhi) ?_
      refine callB1 (T.keeps F2.keep) b_len ?_
      refine nmL F2 rfl ?_
      refine P.len_str (by have := hxl; omega) ?_
      refine isub_int ?_
      refine stL F2 fun h3 F3 S3 => ?_
      have hD3 := PlainList.sameBut hD2 S3 hDL
      refine wpAny_execs_cons (wpAny_Delete (wpAny_deleteEach_cons (delSub ?_)))
      refine nmL F3 (by exact hws) ?_
      refine wpAny_UnaryOp (wpAny_Constant_int (neg_int ?_))
      refine wpAny_delItem_plain (k := l.length - 1) hD3 (by decide) ?_ ?_ (by rw [hsize, sizeLine_eq]; omega)
      · rw [hsize]; exact seqIndex_last hpos
      intro h4 hD4 S4
      rw [erase_last hne] at hD4
      refine wpAny_deleteEach_nil ?_
      refine wpAny_execs_nil ?_
      refine wpAny_execs_nil ?_
      have F4 := F3.same S4 hLD (fun n c hc => nomatch hc)
      have e : b = ell3 got lo (hi - x.1.length) (l.dropLast.map (·.1)) := by
        rw [hb]; unfold ell2; rw [hlast, if_pos h0, he, if_pos rfl, List.map_dropLast]
      refine wpAny_mono (ell_part3 R F4 T hD4 hLD (by exact hg) (by exact hlo) rfl (by exact hws) (fun y hy => hsz y (List.dropLast_subset _ hy)) e) (fun f s' h => ?_) fun _ _ e => e
      obtain ⟨e1, h', tk, rfl, k⟩ := h
      exact ⟨e1, h', tk, rfl, k⟩
  · refine ifF h0 ?_
    refine wpAny_execs_nil ?_
    have e : b = ell3 got lo hi (l.map (·.1)) := by rw [hb]; unfold ell2; rw [hlast, if_neg h0]
    refine wpAny_mono (ell_part3 R F2 T hD2 hLD (by exact hg) (by exact hlo) (by exact hhi) (by exact hws) hsz e) (fun f s' h => ?_) fun _ _ e => e
    obtain ⟨e1, h', tk, rfl, k⟩ := h
    exact ⟨e1, h', tk, rfl, k⟩
end
end Mine
end

section
open PySem PySem.W PyProof.Rows
namespace Mine
open PySem.Calls Builtin Builtin.Str
section
variable {prog : Program} {w : World} {A : Around} {s : Shared} {mg mb : Str → Option Value} {h₀ : Heap} {L a D : Addr} {cd : Value} {m cm : Str → Option Value}
  {got want : Str} {tg tw : Tok} {lo hi : Int} {tl th : Tok}

theorem seqIndex_first {n : Nat} (h : 0 < n) : seqIndex? 0 n = some 0 := by
  unfold seqIndex?
  simp [h]

set_option maxHeartbeats 4000000 in
theorem ell_part1 (R : Rm A 0) (F : Fm h₀ L m (envAt 7 L a cd).cells cm s.heap) (T : Wd mg mb h₀) {l : List (Str × Tok)} (hD : s.heap.PlainList D (strValues l).toArray) (hLD : L < D) (hne : 2 ≤ l.length) (hls : l.length ≤ 1000)
    (hg : m "got" = some (.str got tg)) (hws : m "ws" = some (.ref D)) (hsz : ∀ x ∈ l, x.1.length < 2 ^ 62) (hgl : got.length < 2 ^ 62) {b : Bool} (hb : b = ell1 got (l.map (·.1))) :
    wpAny (model prog w) A (execs ((defAt 7).body.drop 2) (envAt 7 L a cd)) (Ends h₀ s (.bool b)) (fun _ _ => False) s := by
  have hpos : 0 < l.length := by omega
  have hsize : (strValues l).toArray.size = l.length := by simp [strValues]
  have hDL : D ≠ L := Nat.ne_of_gt hLD
  obtain ⟨x, hx⟩ : ∃ x, l[0]? = some x := ⟨l[0]'(by omega), List.getElem?_eq_getElem (by omega)⟩
  have hhead : (l.map (·.1)).headD Str.empty = x.1 := by
    cases l with
    | nil => simp at hpos
    | cons y r => simp at hx; rw [← hx]; rfl
  have hxl : x.1.length < 2 ^ 62 := hsz x (List.mem_of_getElem? hx)
  refine wpAny_execs_cons (wpAny_Assert_holds (wpAny_isTrue_Compare1 ?_))
  refine callB1 (T.keeps F.keep) b_len ?_
  refine nmL F hws ?_
  refine call_len_list hD.isList (by rw [hsize]; omega) ?_
  refine wpAny_Constant_int ?_
  refine ge_int (wpAny_truthy_bool ⟨by rw [hsize]; simp; omega, ?_⟩)
  refine wpAny_execs_cons ?_
  refine Assign_Tuple_swapped (names := ["startpos", "endpos"]) ?_
  refine wpAny_Tuple (wpAny_items_cons (wpAny_Constant_int (wpAny_items_cons ?_)))
  refine callB1 (T.keeps F.keep) b_len ?_
  refine nmL F hg ?_
  refine P.len_str (by have := hgl; omega) ?_
  refine wpAny_items_nil ⟨by rw [sizeLine_eq]; simp, ?_⟩
  refine unpackItems_tuple (items := #[_, _]) R.h ⟨_, Heap.get?_push_size _ rfl, rfl, _, rfl⟩ fun h1 hx1 => ?_
  have K1 : Stays s.heap h1 := fun b o e => hx1 b o (Nat.ne_of_lt (Nat.lt_trans (Heap.lt_size e) (by show s.heap.objs.size < (s.heap.push _).objs.size; rw [Heap.size_push]; exact Nat.lt_succ_self _))) (Heap.get?_push_of_some _ e)
  have F1 := F.kept K1
  have hD1 : h1.PlainList D (strValues l).toArray := hD.at fun o e => K1 _ o e
  clear hx1
  show wpAny _ _ (do holding _ (bindName _ _ _); do holding _ (bindName _ _ _); pure ()) _ _ _
  refine wpAny_bind (wpAny_holding (bindName_ ?_))
  refine stL F1 fun h2 F2 S2 => ?_
  refine wpAny_bind (wpAny_holding (bindName_ ?_))
  refine stL F2 fun h3 F3 S3 => ?_
  refine wpAny_pure ?_
  have hD3 := PlainList.sameBut (PlainList.sameBut hD1 S2 hDL) S3 hDL
  refine wpAny_execs_cons (wpAny_Assign_Name (Subscript_ ?_))
  refine nmL F3 (by exact hws) ?_
  refine wpAny_Constant_int ?_
  refine itemL (v := .str x.1 x.2) hD3.isList (by decide) (by decide) ?_ ?_
  · simp [strValues, hx]
  refine stL F3 fun h4 F4 S4 => ?_
  have hD4 := PlainList.sameBut hD3 S4 hDL
  refine wpAny_execs_cons (wpAny_If (wpAny_isTrue_value (nmL F4 rfl ?_)))
  refine P.truthy_str (by have := hxl; omega) ?_
  by_cases h0 : ((x.1.length : Int) != 0) = true
  · refine ifT h0 ?_
    refine wpAny_execs_cons (wpAny_If (wpAny_isTrue_value ?_))
    refine wpAny_Call_method_lateS rfl rfl rfl (nmL F4 (by exact hg) ?_)
    refine methS1 PySem.F.slot_str_startswith PySem.F.type_str_startswith ?_
    refine nmL F4 rfl ?_
    refine SC.startswith (wpAny_truthy_bool ?_)
    by_cases he : Txt.startswith got x.1 = true
    case neg =>
      refine ifF he ?_
      replace he : Txt.startswith got x.1 = false := by simpa using he
      refine wpAny_execs_cons (wpAny_Return_some (wpAny_Constant_bool ?_))
      have e : b = false := by rw [hb]; unfold ell1; rw [hhead, if_pos h0, he]; rfl
      subst e
      exact ⟨rfl, _, _, rfl, F4.keep⟩
    case pos =>
      refine ifT he ?_
      refine wpAny_execs_cons (wpAny_Assign_Name ?_)
      refine callB1 (T.keeps F4.keep) b_len ?_
      refine nmL F4 rfl ?_
      refine P.len_str (by have := hxl; omega) ?_
      refine stL F4 fun h5 F5 S5 => ?_
      have hD5 := PlainList.sameBut hD4 S5 hDL
      refine wpAny_execs_cons (wpAny_Delete (wpAny_deleteEach_cons (delSub ?_)))
      refine nmL F5 (by exact hws) ?_
      refine wpAny_Constant_int ?_
      refine wpAny_delItem_plain (k := 0) hD5 (by decide) ?_ ?_ (by rw [hsize, sizeLine_eq]; omega)
      · rw [hsize]; exact seqIndex_first hpos
      intro h6 hD6 S6
      rw [erase_first] at hD6
      refine wpAny_deleteEach_nil ?_
      refine wpAny_execs_nil ?_
      refine wpAny_execs_nil ?_
      have F6 := F5.same S6 hLD (fun n c hc => nomatch hc)
      have e : b = ell2 got x.1.length got.length (l.tail.map (·.1)) := by
        rw [hb]; unfold ell1; rw [hhead, if_pos h0, he, if_pos rfl, List.map_tail]
      refine wpAny_mono (ell_part2 R F6 T hD6 hLD (by intro h; have := congrArg List.length h; simp at this; omega) (by rw [List.length_tail]; omega) (by exact hg) rfl rfl (by exact hws) (fun y hy => hsz y (List.mem_of_mem_tail hy)) e) (fun f s' h => ?_) fun _ _ e => e
      obtain ⟨e1, h', tk, rfl, k⟩ := h
      exact ⟨e1, h', tk, rfl, k⟩
  · refine ifF h0 ?_
    refine wpAny_execs_nil ?_
    have e : b = ell2 got 0 got.length (l.map (·.1)) := by rw [hb]; unfold ell1; rw [hhead, if_neg h0]
    refine wpAny_mono (ell_part2 R F4 T hD4 hLD (by intro h; rw [h] at hpos; simp at hpos) hls (by exact hg) rfl rfl (by exact hws) hsz e) (fun f s' h => ?_) fun _ _ e => e
    obtain ⟨e1, h', tk, rfl, k⟩ := h
    exact ⟨e1, h', tk, rfl, k⟩

set_option maxHeartbeats 4000000 in
/-- _ellipsis_match gives what ellV says -/
theorem ell_call {E : Value → Shared → Prop} (R : Rm A 1) (T : Wd mg mb s.heap) (ha : mg (defAt 7).name = some (.ref a)) (hwl : want.length ≤ 1000) (hgl : got.length ≤ 1000)
    (hsp : Txt.contains want dots = true → 2 ≤ (Txt.split want dots).length ∧ (Txt.split want dots).length ≤ 1000 ∧ (∀ x ∈ Txt.split want dots, x.length ≤ 1000) ∧
      (partsBetween want (occurrences want dots 0 want.length (want.length + 1)) dots.length).length ≤ sizeLine) :
    wpAny (model prog w) A (call (.ref a) [.str want tw, .str got tg]) (fun v s' => v = .bool (ellV want got) ∧ Keeps s s') E s := by
  refine callDef 7 (binds := [("want", .str want tw), ("got", .str got tg)]) T (by decide) ha R.room (fun _ _ _ => rfl) ?_ ?_
  · intro x hx
    simp only [List.mem_cons, List.not_mem_nil, or_false] at hx
    rcases hx with rfl | rfl <;> exact .inl rfl
  intro L cd h₁ tk hL F
  have hw : (bindL (envAt 7 L a cd).kindOf [("want", .str want tw), ("got", .str got tg)] fun _ => none) "want" = some (.str want tw) := rfl
  have hg : (bindL (envAt 7 L a cd).kindOf [("want", .str want tw), ("got", .str got tg)] fun _ => none) "got" = some (.str got tg) := rfl
  generalize (bindL (envAt 7 L a cd).kindOf [("want", .str want tw), ("got", .str got tg)] fun _ => none) = m at F hw hg
  generalize (bindC (envAt 7 L a cd).kindOf [("want", .str want tw), ("got", .str got tg)] fun _ => none) = cm at F
  obtain ⟨te, hte⟩ := T.marker
  have T1 := T.keeps F.keep
  obtain ⟨b, hb⟩ : ∃ b, b = ellV want got := ⟨_, rfl⟩
  rw [← hb]
  have hE : ∀ f s', Ends s.heap { s with heap := h₁, toks := tk } (.bool b) f s' → (match f with | .ret v => v | _ => .none) = Value.bool b ∧ Keeps s s' := by
    rintro f s' ⟨rfl, h', tk', rfl, k⟩
    exact ⟨rfl, h', tk', rfl, k⟩
  refine wpAny_mono ?_ hE fun _ _ e => e
  refine wpAny_execs_cons (wpAny_If (wpAny_isTrue_Compare1 ?_))
  refine nmG T1 hte ?_
  refine nmL F hw ?_
  refine SB.notContains (wpAny_truthy_bool ?_)
  by_cases hc : Txt.contains want dots = true
  case neg =>
    replace hc : Txt.contains want dots = false := by simpa using hc
    refine ifT (by show (!Txt.contains want dots) = true; rw [hc]; rfl) ?_
    refine wpAny_execs_cons (wpAny_Return_some (wpAny_Compare1 ?_))
    refine nmL F hw ?_
    refine nmL F hg ?_
    refine P.eq_str ?_
    have e : b = (want.cps.toList == got.cps.toList) := by rw [hb]; unfold ellV; rw [hc]; rfl
    rw [← e]
    exact ⟨rfl, _, _, rfl, F.keep⟩
  case pos =>
    refine ifF (by show ¬ (!Txt.contains want dots) = true; rw [hc]; decide) ?_
    obtain ⟨hs2, hs3, hs4, hs5⟩ := hsp hc
    refine wpAny_execs_nil ?_
    refine wpAny_execs_cons (wpAny_Assign_Name ?_)
    refine wpAny_Call_method_lateS rfl rfl rfl (nmL F hw ?_)
    refine methS1 PySem.F.slot_str_split PySem.F.type_str_split ?_
    refine nmG T1 hte ?_
    refine splitN1 (h₀ := s.heap) (L := L) (m := m) (news := []) ⟨F.ns, F.keep, F.above⟩ News.nil (by decide) (fun l hh tk2 hl Fh Nh => ?_) (by rw [sizeLine_eq]; omega)
    have Fc : Fm s.heap L m (envAt 7 L a cd).cells cm hh := ⟨Fh.ns, Fh.keep, Fh.above, (fun _ _ e => nomatch e), F.apart, F.cabove⟩
    refine stL Fc fun h2 F2 S2 => ?_
    have hLD : L < h₁.objs.size := F.lt
    have hD2 : h2.PlainList h₁.objs.size (strValues l).toArray := PlainList.sameBut (b := L) ⟨_, (Nh _ List.mem_cons_self).1⟩ S2 (Nat.ne_of_gt hLD)
    replace hl : l.map (·.1) = Txt.split want dots := hl
    have hll : l.length = (Txt.split want dots).length := by rw [← hl, List.length_map]
    have e : b = ell1 got (l.map (·.1)) := by rw [hb, hl]; unfold ellV; rw [hc]; rfl
    refine wpAny_mono (ell_part1 (Rm.deeper R) F2 T hD2 hLD (by omega) (by omega) (by exact hg) rfl (fun x hx => ?_) (by omega) e) (fun f s' h => ?_) fun _ _ e => e
    · have : x.1 ∈ Txt.split want dots := by rw [← hl]; exact List.mem_map_of_mem hx
      have := hs4 _ this
      omega
    · obtain ⟨e1, h', tk, rfl, k⟩ := h
      exact ⟨e1, h', tk, rfl, k⟩
end
end Mine
end

section
open PySem PySem.W PyProof.Rows
namespace Mine
open PySem.Calls Builtin Builtin.Str

section
variable {prog : Program} {w : World} {A : Around} {E : Value → Shared → Prop} {s : Shared} {env : Env} {Q : Value → Shared → Prop}

/-- a slice of a text -/
theorem sliceS {value : Expr} {lower upper : Option Expr} {p pos : Pos}
    (h : wpAny (model prog w) A (eval value env) (fun o s₁ => wpAny (model prog w) A (evalPart lower env) (fun vl s₂ => wpAny (model prog w) A (evalPart upper env) (fun vu s₃ =>
      ∃ x t l u, o = .str x t ∧ vl = partValue l ∧ vu = partValue u ∧ x.length ≤ sizeLine ∧
        ∀ t' k, Q (.str (Txt.slice x (l.map (·.1)) (u.map (·.1))) t') { s₃ with heap := s₃.heap.push { cls := .type "slice", data := .fields #[vl, vu, .none] }, toks := k }) E s₂) E s₁) E s)
    (ht : ∀ o r, letTemporaryGo value o r = pure () := by intro _ _; rfl) :
    wpAny (model prog w) A (eval (.Subscript value (.Slice lower upper none p) pos) env) Q E s := by
  refine wpAny_Subscript_str_slice (wpAny_mono h (fun o s₁ h₁ => wpAny_mono h₁ (fun vl s₂ h₂ => wpAny_mono h₂ (fun vu s₃ h₃ => ?_) fun _ _ e => e) fun _ _ e => e) fun _ _ e => e) ht
  obtain ⟨x, t, l, u, rfl, rfl, rfl, hsz, hQ⟩ := h₃
  refine ⟨x, t, l, u, rfl, rfl, rfl, ?_⟩
  unfold sliceMade
  refine post_val_or_made (fun hc => ?_) (fun t' k => hQ t' k)
  have e : Txt.slice x (l.map (·.1)) (u.map (·.1)) = ⟨((strSliceIndices (l.map (·.1)) (u.map (·.1)) 1 x.length).filterMap (x.cps[·]?)).toArray⟩ := if_neg hc
  have := Txt.slice_le x (l.map (·.1)) (u.map (·.1))
  rw [e] at this
  exact Nat.le_trans this hsz
end

theorem clip_eq (x : Str) (a b : Nat) : strSliceIndices (some (a : Int)) (some (b : Int)) 1 x.length = (List.range (min b x.length - min a x.length)).map (fun k => min a x.length + k) := by
  by_cases hab : min a x.length ≤ min b x.length
  · have h := StrLaws.strSliceIndices_plain (len := x.length) hab (Nat.min_le_right _ _)
    rw [← h]
    unfold strSliceIndices
    simp only [show ¬ ((a : Int) < 0) by omega, show ¬ ((b : Int) < 0) by omega, show ¬ (((min a x.length : Nat) : Int) < 0) by omega, show ¬ (((min b x.length : Nat) : Int) < 0) by omega, if_false, if_true, show (1 : Int) > 0 by decide]
    congr 1 <;> omega
  · have h0 : min b x.length - min a x.length = 0 := by omega
    rw [h0]
    unfold strSliceIndices sliceRange
    simp only [show ¬ ((a : Int) < 0) by omega, show ¬ ((b : Int) < 0) by omega, if_false, if_true, show (1 : Int) > 0 by decide]
    rw [if_neg (by omega)]
    rfl

theorem slice_toList (x : Str) (a b : Nat) : (Txt.slice x (some (a : Int)) (some (b : Int))).cps.toList = (x.cps.toList.drop a).take (b - a) := by
  have hlen : x.cps.toList.length = x.length := by simp [Str.length]
  have key : ((strSliceIndices (some (a : Int)) (some (b : Int)) 1 x.length).filterMap (x.cps[·]?)) = (x.cps.toList.drop a).take (b - a) := by
    rw [clip_eq]
    have e : (fun i : Nat => x.cps[i]?) = fun i => x.cps.toList[i]? := by funext i; simp
    rw [e]
    have hp := StrLaws.picks x.cps.toList (min b x.length - min a x.length) (min a x.length)
    by_cases hab : min a x.length ≤ min b x.length
    · rw [hp (by rw [hlen]; omega)]
      apply List.ext_getElem?
      intro i
      simp only [List.getElem?_take, List.getElem?_drop]
      by_cases h1 : i < min b x.length - min a x.length
      · rw [if_pos h1, if_pos (by omega)]
        congr 1; omega
      · rw [if_neg h1]
        by_cases h2 : i < b - a
        · rw [if_pos h2]
          exact (List.getElem?_eq_none (by rw [hlen]; omega)).symm
        · rw [if_neg h2]
    · have h0 : min b x.length - min a x.length = 0 := by omega
      have h1 : b - a = 0 := by omega
      rw [h0, h1]; simp
  unfold Txt.slice
  split
  · rename_i hc
    have hl : (strSliceIndices (some (a : Int)) (some (b : Int)) 1 x.length).length = x.length := by simpa using hc
    rw [clip_eq, List.length_map, List.length_range] at hl
    rw [← key, clip_eq]
    have e : (fun i : Nat => x.cps[i]?) = fun i => x.cps.toList[i]? := by funext i; simp
    by_cases hx : x.length = 0
    · have : x.cps.toList = [] := List.length_eq_zero_iff.mp (by rw [hlen]; exact hx)
      rw [e, this, hl, hx]; rfl
    · have ha : min a x.length = 0 := by omega
      have hb : min b x.length = x.length := by omega
      rw [ha, hb, e]
      have := StrLaws.picks x.cps.toList x.length 0 (by rw [hlen]; omega)
      rw [Nat.sub_zero, this, List.drop_zero]
      conv => rhs; rw [← hlen, List.take_length]
  · exact key

theorem slice_mem (x : Str) (l u : Option Int) : ∀ c ∈ (Txt.slice x l u).cps.toList, c ∈ x.cps.toList := by
  intro c hc
  unfold Txt.slice at hc
  split at hc
  · exact hc
  · have hc' : c ∈ (strSliceIndices l u 1 x.length).filterMap (x.cps[·]?) := by simpa using hc
    obtain ⟨i, _, hi⟩ := List.mem_filterMap.mp hc'
    have := Array.mem_of_getElem? hi
    simpa using this

end Mine
end

section
open PySem PySem.W PyProof.Rows
namespace Mine
open PySem.Calls Builtin Builtin.Str

def stepR (t ps : List Nat) (c : Nat) : List Nat :=
  if c = 35 then (match ps with | [] => [] | p :: _ => List.range' p (t.length + 1 - p))
  else (ps.filter fun k => (t.drop k).take 1 == [c]).map (· + 1)

def readsV (word text : Str) : Bool := (word.cps.toList.foldl (stepR text.cps.toList) [0]).any (· == text.length)

def natInts (ps : List Nat) : List Int := ps.map fun k : Nat => (k : Int)

theorem stepR_le {t ps : List Nat} {c : Nat} (h : ∀ p ∈ ps, p ≤ t.length) : ∀ p ∈ stepR t ps c, p ≤ t.length := by
  intro p hp
  unfold stepR at hp
  split at hp
  · cases ps with
    | nil => cases hp
    | cons q r =>
      have := List.mem_range'_1.mp hp
      have := h q List.mem_cons_self
      omega
  · obtain ⟨k, hk, rfl⟩ := List.mem_map.mp hp
    obtain ⟨hk1, hk2⟩ := List.mem_filter.mp hk
    by_cases hlt : k < t.length
    · omega
    · rw [List.drop_eq_nil_of_le (by omega)] at hk2
      simp at hk2

section
variable {prog : Program} {w : World} {A : Around} {E : Value → Shared → Prop} {s : Shared}

theorem neNil {l b : Addr} {items : Array Value} {Q : Value → Shared → Prop} (hl : s.heap.IsList l items) (hb : s.heap.IsList b #[]) (hu : A.units < cLine) (h : Q (.bool (items.size != 0)) s) :
    wpAny (model prog w) A (compareOp .NotEq (.ref l) (.ref b)) Q E s := by
  by_cases hz : items.size = 0
  · refine PySem.SeqAt.RcNeAt.lists (e := fun _ => true) hl hb (by simpa using hz) hu (fun j h1 h2 => by simp at h2) prog w E Q ?_
    rw [hz] at h ⊢
    exact h
  · refine PySem.SeqAt.RcNeAt.lists_lengths hl hb (by simpa using hz) hu prog w E Q ?_
    have : (items.size != 0) = true := by simpa using hz
    rw [this] at h
    exact h
theorem eqNil {l b : Addr} {items : Array Value} {Q : Value → Shared → Prop} (hl : s.heap.IsList l items) (hb : s.heap.IsList b #[]) (hu : A.units < cLine) (h : Q (.bool (items.size == 0)) s) :
    wpAny (model prog w) A (compareOp .Eq (.ref l) (.ref b)) Q E s := by
  by_cases hz : items.size = 0
  · refine PySem.SeqAt.eq_listAt (e := fun _ => true) hl hb (by simpa using hz) hu (fun j h1 h2 => by simp at h2) ?_
    rw [hz] at h ⊢
    exact h
  · refine PySem.SeqAt.eq_list_lengthsAt hl hb (by simpa using hz) hu ?_
    have : (items.size == 0) = false := by simpa using hz
    rw [this] at h
    exact h
end

def keepsR (t : List Nat) (c : Nat) (v : Value) : Bool := match v with | .int k _ => ((t.drop k.toNat).take 1 == [c]) | _ => false

theorem paired_reads {t : List Nat} {c : Nat} : ∀ {vs : List Value} {ps : List Nat} {ys : List Value}, IntsAre vs (natInts ps) →
    Paired (fun v y => ∃ k t' u, v = Value.int k t' ∧ y = Value.int (k + 1) u) (vs.filter (keepsR t c)) ys → IntsAre ys (natInts ((ps.filter fun k => (t.drop k).take 1 == [c]).map (· + 1)))
  | [], [], ys, _, h => by
    have h' : Paired (fun v y => ∃ k t' u, v = Value.int k t' ∧ y = Value.int (k + 1) u) [] ys := h
    cases h'
    exact .nil
  | _, p :: ps, ys, .cons _ t' hr, h => by
    have hk : keepsR t c (.int (p : Int) t') = ((t.drop p).take 1 == [c]) := by simp [keepsR]
    rw [List.filter_cons]
    by_cases hc : ((t.drop p).take 1 == [c]) = true
    · rw [if_pos hc]
      rw [List.filter_cons, if_pos (hk.trans hc)] at h
      cases h with
      | cons h1 h2 =>
        obtain ⟨k, t1, u, e1, rfl⟩ := h1
        cases e1
        have := IntsAre.cons ((p : Int) + 1) u (paired_reads hr h2)
        simpa [natInts] using this
    · rw [if_neg hc]
      rw [List.filter_cons, if_neg (by rw [hk]; exact hc)] at h
      exact paired_reads hr h

theorem intsAre_of : ∀ (vs : List Value) (ns : List Int), vs.length = ns.length → (∀ (j : Nat) v, vs[j]? = some v → ∃ t n, v = .int n t ∧ ns[j]? = some n) → IntsAre vs ns
  | [], [], _, _ => .nil
  | [], _ :: _, h, _ => by simp at h
  | _ :: _, [], h, _ => by simp at h
  | v :: vs, n :: ns, hl, h => by
    obtain ⟨t, n', rfl, e⟩ := h 0 v rfl
    have e' : n = n' := by simpa using e
    subst e'
    exact .cons n t (intsAre_of vs ns (by simpa using hl) fun j v hj => by simpa using h (j + 1) v (by simpa using hj))

theorem itemsOf_ints {p n : Nat} {acc : Array Value} (h : ItemsOf (fun i v => ∃ t, v = .int ((p : Int) + i * 1) t) acc n) : IntsAre acc.toList (natInts (List.range' p n)) := by
  refine intsAre_of _ _ (by simp [natInts, h.1]) fun j v hj => ?_
  have hj' : acc[j]? = some v := by simpa using hj
  obtain ⟨t, rfl⟩ := h.2 j v hj'
  have hlt : j < n := by
    have := (Array.getElem?_eq_some_iff.mp hj').1
    rw [h.1] at this; exact this
  refine ⟨t, _, rfl, ?_⟩
  unfold natInts
  rw [List.getElem?_map, List.getElem?_range' hlt]
  simp

section
variable {prog : Program} {w : World} {A : Around} {s : Shared} {mg mb : Str → Option Value} {h₀ : Heap} {L a D I : Addr} {cd : Value} {m cm : Str → Option Value}
  {text : Str} {tt : Tok} {c : Nat} {u : Tok}

/-- where a frame's list may lie -/
def Aside (L I D : Addr) (cs : List (Str × Addr)) : Prop := D ≠ L ∧ D ≠ I ∧ ∀ n c, (n, c) ∈ cs → c ≠ D

def readsBody : List Stmt := match (defAt 11).body with | [_, .For _ _ b _ _, _] => b | _ => []

set_option maxHeartbeats 4000000 in
theorem reads_turn (R : Rm A 0) (F : Fm h₀ L m (envAt 11 L a cd).cells cm s.heap) (T : Wd mg mb h₀) {vs : List Value} {ps : List Nat} (hD : s.heap.IsList D vs.toArray) (hi : IntsAre vs (natInts ps))
    (hle : ∀ p ∈ ps, p ≤ text.length) (hlen : ps.length ≤ 1001) (htl : text.length ≤ 1000)
    (hp : m "places" = some (.ref D)) (ht : cm "text" = some (.str text tt)) (hs : cm "sign" = some (.str ⟨#[c]⟩ u)) {oI : Obj} (hI : s.heap.get? I = some oI) (hIL : I ≠ L) (hA : Aside L I D (envAt 11 L a cd).cells) :
    wpAny (model prog w) A (execs readsBody (envAt 11 L a cd)) (fun f s' => f = .next ∧ ∃ h' tk m' D' vs', s' = { s with heap := h', toks := tk } ∧ Fm h₀ L m' (envAt 11 L a cd).cells cm h' ∧
      h'.get? I = some oI ∧ m' "places" = some (.ref D') ∧ h'.IsList D' vs'.toArray ∧ IntsAre vs' (natInts (stepR text.cps.toList ps c)) ∧ Aside L I D' (envAt 11 L a cd).cells) (fun _ _ => False) s := by
  refine wpAny_execs_cons (wpAny_If (wpAny_isTrue_Compare1 ?_))
  refine nmC F hs ?_
  refine wpAny_Constant_str ?_
  refine P.ne_str (wpAny_truthy_bool ?_)
  by_cases hc : c = 35
  · subst hc
    refine ifF (by decide) ?_
    refine wpAny_execs_cons (wpAny_If (wpAny_isTrue_Compare1 ?_))
    refine nmL F hp ?_
    refine wpAny_List (wpAny_items_nil ⟨Nat.zero_le _, ?_⟩)
    refine neNil (hD.push _) ⟨_, Heap.get?_push_size _ rfl, rfl, _, rfl⟩ R.units (wpAny_truthy_bool ?_)
    have hvl : vs.length = ps.length := by have := hi.length; rw [this]; simp [natInts]
    cases ps with
    | nil =>
      refine ifF (by rw [List.size_toArray, hvl]; decide) ?_
      refine wpAny_execs_nil (wpAny_execs_nil (wpAny_execs_nil ?_))
      exact ⟨rfl, _, _, m, D, vs, rfl, F.push _, Heap.get?_push_of_some _ hI, hp, hD.push _, hi, hA⟩
    | cons p ps =>
      refine ifT (by rw [List.size_toArray, hvl]; simp) ?_
      obtain ⟨tp, vs', rfl, hi'⟩ := hi.cons_inv
      have F1 := F.push { cls := .type "list", data := .seq ([] : List Value).toArray }
      have T1 := T.keeps F1.keep
      have hpl : p ≤ text.length := hle p List.mem_cons_self
      refine wpAny_execs_cons (wpAny_Assign_Name ?_)
      refine callT1 T1 b_list ?_
      refine callT2 T1 b_range ?_
      refine Subscript_ (nmL F1 hp ?_)
      refine wpAny_Constant_int ?_
      refine itemL (v := .int (p : Int) tp) (hD.push _) (by decide) (by decide) rfl ?_
      refine wpAny_BinOp (callB1 T1 b_len ?_)
      refine nmC F1 ht ?_
      refine P.len_str (by omega) ?_
      refine wpAny_Constant_int (add_int ?_)
      refine call_range_2 ?_
      refine call_list_range (n := text.length + 1 - p) R.h (IsRange.new _ (p : Int) ((text.length : Int) + 1) 1 _ _ _) (small_one (by omega) (by omega) (by omega) (by omega))
        (by rw [rangeSize_one, if_pos (by omega)]; omega) (by omega) ?_
      intro h' tk acc c' K hacc hitems
      have hsz : ∀ b : Addr, b < s.heap.objs.size → b ≠ ((s.heap.push { cls := .type "list", data := .seq ([] : List Value).toArray }).push { cls := .type "range", data := .fields #[.int (p : Int) tp, .int ((text.length : Int) + 1) (s.toks + 1 + 1 + 1 + 1 + 1), .int 1 (s.toks + 1 + 1 + 1 + 1 + 1 + 1)] }).objs.size := fun b hb => by
        rw [Heap.size_push, Heap.size_push]; exact Nat.ne_of_lt (Nat.lt_succ_of_lt (Nat.lt_succ_of_lt hb))
      have K' : Stays s.heap h' := fun b o e => K b o (Heap.get?_push_of_some _ (Heap.get?_push_of_some _ e))
      have F2 := F.kept K'
      refine stL F2 fun h2 F3 S3 => ?_
      refine wpAny_execs_nil (wpAny_execs_nil (wpAny_execs_nil ?_))
      have hLne := hsz L F.lt
      refine ⟨rfl, h2, _, _, _, acc.toList, rfl, F3, ?_, rfl, ⟨_, (S3.2 _ (Ne.symm hLne)).trans hacc, rfl, _, rfl⟩, ?_, Ne.symm hLne, Ne.symm (hsz I (Heap.lt_size hI)), fun n c hc => ?_⟩
      · exact (S3.2 I hIL).trans (K' I oI hI)
      · exact itemsOf_ints hitems
      · have hl : (envAt 11 L a cd).cells.lookup n = some c := by
          rcases List.mem_cons.mp hc with e | hc
          · cases e; rfl
          · rcases List.mem_cons.mp hc with e | hc
            · cases e; rfl
            · cases hc
        exact hsz c (F.clt hl)
  · refine ifT (by rw [show (Str.ofString "#") = ⟨#[35]⟩ from by decide]; simpa using hc) ?_
    refine wpAny_execs_cons ?_
    refine wpAny_Assign_ListComp_free (keepsR text.cps.toList c) (fun v y => ∃ k t' u, v = Value.int k t' ∧ y = Value.int (k + 1) u) rfl (cl := [("text", L + 1), ("sign", L + 1 + 1)]) rfl (by decide) rfl (by decide) rfl rfl rfl ?_
    refine nmL F hp ?_
    refine wpAny_pyIter_list hD ?_
    have hDlt : D < s.heap.objs.size := by obtain ⟨_, e, _⟩ := hD; exact Heap.lt_size e
    have notI : ∀ b : Addr, b < s.heap.objs.size → b ∉ [s.heap.objs.size] := fun b hb hm => by
      have : b = s.heap.objs.size := by simpa using hm
      exact absurd (this ▸ hb) (Nat.lt_irrefl _)
    have F1 := F.push { cls := .type "list_iterator", data := .fields #[.ref D, .int 0 0] }
    refine ⟨s.heap.objs.size, [s.heap.objs.size, D], [s.heap.objs.size], vs.toArray.size, (fun i v => vs.toArray[i]? = some v), _, m, rfl, Walks.list R.h s.heap.objs.size D (Nat.ne_of_lt hDlt) vs.toArray, ?_,
      ⟨⟨_, Heap.get?_push_size _ rfl, rfl, rfl⟩, hD.push _⟩, ?_, notI _ F.lt, F1.ns, ⟨?_, ?_⟩, ?_⟩
    · have : vs.length = ps.length := by have := hi.length; rw [this]; simp [natInts]
      rw [List.size_toArray, this, sizeLine_eq]; omega
    · intro b hb
      show b < (s.heap.push _).objs.size
      rw [Heap.size_push]
      rcases List.mem_cons.mp hb with rfl | hb
      · exact Nat.lt_succ_self _
      · rcases List.mem_cons.mp hb with rfl | hb
        · exact Nat.lt_succ_of_lt hDlt
        · cases hb
    · intro C i v s₃ m₃ E' hC hP hn hm hold htk
      have hct : s₃.heap.IsCell (L + 1) (some (.str text tt)) := by
        have := F1.cell "text" (L + 1) rfl
        rw [ht] at this
        obtain ⟨oc, hoc, hd⟩ := this
        exact ⟨oc, hold _ _ (notI _ (F.clt (n := "text") rfl)) hoc, hd⟩
      have hcs : s₃.heap.IsCell (L + 1 + 1) (some (.str ⟨#[c]⟩ u)) := by
        have := F1.cell "sign" (L + 1 + 1) rfl
        rw [hs] at this
        obtain ⟨oc, hoc, hd⟩ := this
        exact ⟨oc, hold _ _ (notI _ (F.clt (n := "sign") rfl)) hoc, hd⟩
      have hPv : vs[i]? = some v := by simpa using hP
      obtain ⟨n, tn, rfl, hn'⟩ := hi.at i v hPv
      obtain ⟨k, hk, rfl⟩ : ∃ k : Nat, k ∈ ps ∧ n = (k : Int) := by
        have := List.mem_of_getElem? hn'
        unfold natInts at this
        obtain ⟨k, hk, e⟩ := List.mem_map.mp this
        exact ⟨k, hk, e.symm⟩
      refine wpAny_tests_one (wpAny_isTrue_Compare1 ?_)
      refine sliceS (wpAny_Name (wpAny_loadName_cell rfl rfl rfl hct ?_) rfl)
      refine evalPart_some_step (wpAny_Name (wpAny_loadName_local rfl rfl hn hm ?_) rfl)
      refine evalPart_some_step (wpAny_BinOp (wpAny_Name (wpAny_loadName_local rfl rfl hn hm ?_) rfl))
      refine wpAny_Constant_int (add_int ?_)
      refine ⟨text, tt, some ((k : Int), tn), some ((k : Int) + 1, _), rfl, rfl, rfl, by rw [sizeLine_eq]; omega, fun t' k' => ?_⟩
      refine wpAny_Name (wpAny_loadName_cell rfl rfl rfl (hcs.keeps fun b o e => Heap.get?_push_of_some _ e) ?_) rfl
      refine P.eq_str (wpAny_truthy_bool ⟨?_, _, _, rfl, fun b o e => Heap.get?_push_of_some _ e⟩)
      show ((Txt.slice text (some (k : Int)) (some ((k : Int) + 1))).cps.toList == [c]) = _
      have := slice_toList text k (k + 1)
      rw [show ((k + 1 : Nat) : Int) = (k : Int) + 1 from by omega] at this
      rw [this]
      simp [keepsR]
    · intro C i v s₃ m₃ E' hC hP hpv hn hm hold htk
      have hPv : vs[i]? = some v := by simpa using hP
      obtain ⟨n, tn, rfl, hn'⟩ := hi.at i v hPv
      refine wpAny_BinOp (wpAny_Name (wpAny_loadName_local rfl rfl hn hm ?_) rfl)
      refine wpAny_Constant_int (add_int ?_)
      exact ⟨⟨n, tn, _, rfl, rfl⟩, _, _, rfl, fun b o e => e⟩
    · intro D' h' tk ys vs' hnew hl' hpl hlen' hP hF hns hk
      refine wpAny_execs_nil ?_
      refine wpAny_execs_nil ?_
      have hvs : vs' = vs := by
        have := list_of_places hlen' hP
        simpa using this
      subst hvs
      have old : ∀ b o, b ≠ L → s.heap.get? b = some o → h'.get? b = some o := fun b o hb e => hk b o hb (notI b (Heap.lt_size e)) (Heap.get?_push_of_some _ e)
      have hD's : ∀ (b : Addr) (o : Obj), s.heap.get? b = some o → D' ≠ b := fun b o e => ne_of_none_some hnew (Heap.get?_push_of_some _ e)
      refine ⟨rfl, h', tk, _, D', ys.toList, rfl, ⟨hns, fun b o e => old b o (Nat.ne_of_lt (F.old e)) (F.keep b o e), F.above, fun n c hc => ?_, F.apart, F.cabove⟩, ?_, rfl, hl', ?_, ?_⟩
      · obtain ⟨oc, hoc, hd⟩ := F.cell n c hc
        exact ⟨oc, old c oc (Nat.ne_of_gt (F.cabove n c (mem_of_lookup hc))) hoc, hd⟩
      · exact old I oI hIL hI
      · have := paired_reads hi hF
        unfold stepR
        rw [if_neg hc]
        exact this
      · refine ⟨?_, hD's I oI hI, fun n c hc => ?_⟩
        · obtain ⟨o, _, _, ho, _⟩ := F.ns
          exact hD's L o ho
        · have hl : (envAt 11 L a cd).cells.lookup n = some c := by
            rcases List.mem_cons.mp hc with e | hc
            · cases e; rfl
            · rcases List.mem_cons.mp hc with e | hc
              · cases e; rfl
              · cases hc
          obtain ⟨oc, hoc, _⟩ := F.cell n c hl
          exact Ne.symm (hD's c oc hoc)
end
end Mine
end

section
open PySem PySem.W PyProof.Rows
namespace Mine
open PySem.Calls Builtin Builtin.Str

theorem foldR_len {t : List Nat} : ∀ (l : List Nat) (ps : List Nat), ps.length ≤ t.length + 1 → (∀ p ∈ ps, p ≤ t.length) → (l.foldl (stepR t) ps).length ≤ t.length + 1 ∧ ∀ p ∈ l.foldl (stepR t) ps, p ≤ t.length
  | [], ps, h1, h2 => ⟨h1, h2⟩
  | c :: l, ps, h1, h2 => by
    refine foldR_len l (stepR t ps c) ?_ (stepR_le h2)
    unfold stepR
    split
    · cases ps with
      | nil => simp
      | cons q r => simp
    · rw [List.length_map]
      exact Nat.le_trans (List.length_filter_le _ _) h1

/-- a walk over a text's signs whose iterator stands all the while -/
structure SignWalk (prog : Program) (w : World) (I : Addr) (x : Str) (St : Nat → Heap → Prop) : Prop where
  walk : ∀ A : Around, A.handled = none → Walks prog w A I [I] [I] x.cps.size (SignAt x) St
  live : ∀ i h, St i h → ∃ o, h.get? I = some o

theorem pyIterStr {prog : Program} {w : World} {A : Around} {E : Value → Shared → Prop} {s : Shared} {x : Str} {t : Tok} {Q : Value → Shared → Prop}
    (hQ : ∀ o St, SignWalk prog w s.heap.objs.size x St → St 0 (s.heap.push o) → Q (.ref s.heap.objs.size) { s with heap := s.heap.push o }) : wpAny (model prog w) A (pyIter (.str x t)) Q E s := by
  refine wpAny_pyIter_strU ?_
  by_cases ha : x.cps.all (· < 128) = true
  · rw [show strIterType x = "str_ascii_iterator" from if_pos ha]
    exact hQ _ _ ⟨fun _ hA => Walks.strAscii hA _ x t, fun _ _ y => y.imp fun _ z => z.1⟩ ⟨_, Heap.get?_push_size _ rfl, rfl, rfl⟩
  · rw [show strIterType x = "str_iterator" from if_neg ha]
    exact hQ _ _ ⟨fun _ hA => Walks.strWide hA _ x t, fun _ _ y => y.imp fun _ z => z.1⟩ ⟨_, Heap.get?_push_size _ rfl, rfl, rfl⟩

section
variable {prog : Program} {w : World} {A : Around} {s : Shared} {mg mb : Str → Option Value} {a : Addr} {word text : Str} {tw tt : Tok}

set_option maxHeartbeats 4000000 in
/-- _law_reads gives what readsV says -/
theorem reads_call {E : Value → Shared → Prop} (R : Rm A 1) (T : Wd mg mb s.heap) (ha : mg (defAt 11).name = some (.ref a)) (htl : text.length ≤ 1000) :
    wpAny (model prog w) A (call (.ref a) [.str word tw, .str text tt]) (fun v s' => v = .bool (readsV word text) ∧ Keeps s s') E s := by
  refine callDef 11 (binds := [("word", .str word tw), ("text", .str text tt)]) T (by decide) ha R.room (fun _ _ _ => rfl) ?_ ?_
  · intro x hx
    simp only [List.mem_cons, List.not_mem_nil, or_false] at hx
    rcases hx with rfl | rfl
    · exact .inl rfl
    · exact .inr ⟨rfl, rfl⟩
  have hA0 := R.h
  intro L cd h₁ tk hL F
  have hw : (bindL (envAt 11 L a cd).kindOf [("word", .str word tw), ("text", .str text tt)] fun _ => none) "word" = some (.str word tw) := rfl
  have ht : (bindC (envAt 11 L a cd).kindOf [("word", .str word tw), ("text", .str text tt)] fun _ => none) "text" = some (.str text tt) := rfl
  generalize (bindL (envAt 11 L a cd).kindOf [("word", .str word tw), ("text", .str text tt)] fun _ => none) = m at F hw
  generalize (bindC (envAt 11 L a cd).kindOf [("word", .str word tw), ("text", .str text tt)] fun _ => none) = cm at F ht
  have R0 : Rm (A.deeper (envAt 11 L a cd)) 0 := Rm.deeper R
  have hE : ∀ f s', Ends s.heap { s with heap := h₁, toks := tk } (.bool (readsV word text)) f s' → (match f with | .ret v => v | _ => .none) = Value.bool (readsV word text) ∧ Keeps s s' := by
    rintro f s' ⟨rfl, h', tk', rfl, k⟩
    exact ⟨rfl, h', tk', rfl, k⟩
  refine wpAny_mono ?_ hE fun _ _ e => e
  clear hE
  refine wpAny_execs_cons (wpAny_Assign_Name ?_)
  refine wpAny_List (wpAny_items_cons (wpAny_Constant_int (wpAny_items_nil ⟨by rw [sizeLine_eq]; simp, ?_⟩)))
  refine stL (F.push _) fun h2 F2 S2 => ?_
  have hLD : L < h₁.objs.size := F.lt
  have hD2 : h2.IsList h₁.objs.size [Value.int 0 tk].toArray := ⟨_, (S2.2 _ (Nat.ne_of_gt hLD)).trans (Heap.get?_push_size _ rfl), rfl, _, rfl⟩
  refine wpAny_execs_cons (wpAny_For (nmL F2 (by exact hw) ?_))
  refine pyIterStr fun oI St V st0 => ?_
  have W := V.walk
  have live := V.live
  have hsz2 : h₁.objs.size < h2.objs.size := by rw [S2.1]; show _ < (h₁.push _).objs.size; rw [Heap.size_push]; exact Nat.lt_succ_self _
  have hcell : ∀ n c, (n, c) ∈ (envAt 11 L a cd).cells → (envAt 11 L a cd).cells.lookup n = some c := by
    intro n c hc
    rcases List.mem_cons.mp hc with e | hc
    · cases e; rfl
    · rcases List.mem_cons.mp hc with e | hc
      · cases e; rfl
      · cases hc
  refine forWalk (W _ R0.h)
    (fun i s' => ∃ h' tk' m' cm' D vs, s' = { s with heap := h', toks := tk' } ∧ Fm s.heap L m' (envAt 11 L a cd).cells cm' h' ∧ St i h' ∧
      m' "places" = some (.ref D) ∧ cm' "text" = some (.str text tt) ∧ h'.IsList D vs.toArray ∧ IntsAre vs (natInts ((word.cps.toList.take i).foldl (stepR text.cps.toList) [0])) ∧ Aside L h2.objs.size D (envAt 11 L a cd).cells) ?_ ?_ ?_ ?_
  · refine ⟨_, _, _, cm, _, _, rfl, F2.push _, st0, rfl, ht, hD2.push _, .cons 0 tk .nil, Nat.ne_of_gt hLD, Nat.ne_of_lt hsz2, fun n c hc => ?_⟩
    have := F.clt (hcell n c hc)
    exact Nat.ne_of_lt this
  · rintro i s' ⟨h', tk', m', cm', D, vs, rfl, _, st, _⟩
    exact st
  · rintro i v s' h'' tk'' hin ⟨h', tk', m', cm', D, vs, rfl, F', st, hp, ht', hl, hi, hA⟩ hP hst hk
    obtain ⟨c, u, hc, rfl⟩ := hP
    have hk' : ∀ b o, b ≠ h2.objs.size → h'.get? b = some o → h''.get? b = some o := fun b o hb e => hk b o (by simpa using hb) e
    have F'' : Fm s.heap L m' (envAt 11 L a cd).cells cm' h'' := F'.ext (a := h2.objs.size) hk' (Nat.lt_trans hLD hsz2) (fun n c hc => Nat.ne_of_lt (Nat.lt_trans (F.clt (hcell n c hc)) hsz2))
    have hl'' : h''.IsList D vs.toArray := hl.at fun o e => hk' D o hA.2.1 e
    obtain ⟨oI', hoI⟩ := live _ _ hst
    have hIc : ∀ n c, (n, c) ∈ (envAt 11 L a cd).cells → h2.objs.size ≠ c := fun n c hc => Nat.ne_of_gt (Nat.lt_trans (F.clt (hcell n c hc)) hsz2)
    refine stC F'' fun h3 F3 S3 => ?_
    have hl3 : h3.IsList D vs.toArray := hl''.extBut S3.extBut (Ne.symm (hA.2.2 "sign" _ (List.mem_cons_self)))
    have hI3 : h3.get? h2.objs.size = some oI' := (S3.2 _ (hIc "sign" _ (List.mem_cons_self))).trans hoI
    have hf := foldR_len (t := text.cps.toList) (word.cps.toList.take i) [0] (by simp) (by simp)
    have htl' : text.cps.toList.length = text.length := by simp [Str.length]
    rw [htl'] at hf
    refine wpAny_mono (reads_turn R0 F3 T hl3 hi hf.2 (by omega) htl hp (by exact ht') rfl hI3 (Nat.ne_of_gt (Nat.lt_trans hLD hsz2)) hA) (fun f s' h => ?_) fun _ _ e => e
    obtain ⟨rfl, h4, tk4, m4, D4, vs4, rfl, F4, hI4, hp4, hl4, hi4, hA4⟩ := h
    refine ⟨h4, tk4, m4, _, D4, vs4, rfl, F4, ?_, hp4, by exact ht', hl4, ?_, hA4⟩
    · refine (W A hA0).frame _ _ _ hst fun b hb o e => ?_
      have hb' : b = h2.objs.size := by simpa using hb
      subst hb'
      have : o = oI' := by rw [hoI] at e; exact (Option.some.inj e).symm
      rw [this]; exact hI4
    · have : word.cps.toList.take (i + 1) = word.cps.toList.take i ++ [c] := by
        have h' : word.cps.toList[i]? = some c := by simpa using hc
        rw [List.take_add_one, h']; rfl
      rw [this, List.foldl_append]
      exact hi4
  · rintro s' h'' tk'' ⟨h', tk', m', cm', D, vs, rfl, F', st, hp, ht', hl, hi, hA⟩ hk
    have hk' : ∀ b o, b ≠ h2.objs.size → h'.get? b = some o → h''.get? b = some o := fun b o hb e => hk b o (by simpa using hb) e
    have F'' : Fm s.heap L m' (envAt 11 L a cd).cells cm' h'' := F'.ext (a := h2.objs.size) hk' (Nat.lt_trans hLD hsz2) (fun n c hc => Nat.ne_of_lt (Nat.lt_trans (F.clt (hcell n c hc)) hsz2))
    have hl'' : h''.IsList D vs.toArray := hl.at fun o e => hk' D o hA.2.1 e
    refine wpAny_execs_cons (wpAny_Return_some (wpAny_Compare1 ?_))
    refine callB1 (T.keeps F''.keep) b_len ?_
    refine nmC F'' ht' ?_
    refine P.len_str (by omega) ?_
    refine nmL F'' hp ?_
    refine in_list_ints hl'' hi ?_
    have e : (natInts ((word.cps.toList.take word.cps.size).foldl (stepR text.cps.toList) [0])).any (· == (text.length : Int)) = readsV word text := by
      have : word.cps.toList.take word.cps.size = word.cps.toList := by rw [List.take_of_length_le]; simp
      rw [this]
      unfold readsV natInts
      rw [List.any_map]
      congr 1
      funext k
      simp only [Function.comp]
      rw [Bool.eq_iff_iff]; simp only [beq_iff_eq]; omega
    rw [e]
    exact ⟨rfl, _, _, rfl, F''.keep⟩
end
end Mine
end

section
open PySem PySem.W PyProof.Rows
namespace Mine
open PySem.Calls Builtin Builtin.Str

theorem walksLt {prog : Program} {w : World} {A : Around} {I : Addr} {fp wr : List Addr} {n : Nat} {P : Nat → Value → Prop} {St : Nat → Heap → Prop} (W : Walks prog w A I fp wr n P St) :
    Walks prog w A I fp wr n (fun i v => i < n ∧ P i v) St where
  sub := W.sub
  frame := W.frame
  item := fun i s Q E hi st hQ => W.item i s Q E hi st fun v h' tk hP st' hk => hQ v h' tk ⟨hi, hP⟩ st' hk
  done := W.done
  self := W.self

theorem rangeIter1 {prog : Program} {w : World} {A : Around} {E : Value → Shared → Prop} {s : Shared} {n : Nat} {t : Tok} {Q : Value → Shared → Prop} (hn : n < 2 ^ 62)
    (h : ∀ h' tk I, Stays s.heap h' → s.heap.get? I = none → I < h'.objs.size → IsRangeIter h' I 0 n 1 → Q (.ref I) { s with heap := h', toks := tk }) :
    wpAny (model prog w) A (call (.type "range") [.int (n : Int) t]) (fun xv s₁ => wpAny (model prog w) A (pyIter xv) Q E s₁) E s := by
  refine call_range_1 ?_
  refine wpAny_pyIter_range (IsRange.new _ _ _ _ _ _ _) (small_one (by omega) (by omega) (by omega) (by omega)) ?_
  refine h _ _ _ (fun b o e => Heap.get?_push_of_some _ (Heap.get?_push_of_some _ e)) ?_ ?_ ?_
  · cases e : s.heap.get? (s.heap.push { cls := .type "range", data := .fields #[.int 0 s.toks, .int n t, .int 1 (s.toks + 1)] }).objs.size with
    | none => rfl
    | some o =>
      have h1 := Heap.lt_size e
      rw [Heap.size_push] at h1
      exact absurd h1 (Nat.not_lt.mpr (Nat.le_succ _))
  · exact Heap.lt_size (Heap.get?_push_size _ rfl)
  · have : Builtin.Range.rangeSize 0 (n : Int) 1 = (n : Int) := by rw [rangeSize_one]; split <;> omega
    rw [this]
    exact Heap.get?_push_size _ rfl

section
variable {prog : Program} {w : World} {A : Around} {s : Shared} {mg mb : Str → Option Value} {a d1 d2 : Addr} {items : Array Value}

set_option maxHeartbeats 4000000 in
/-- _law_same tells True of two lists that hold the same plain things -/
theorem same_call {E : Value → Shared → Prop} (R : Rm A 1) (T : Wd mg mb s.heap) (ha : mg (defAt 12).name = some (.ref a))
    (h1 : s.heap.IsList d1 items) (h2 : s.heap.IsList d2 items) (hsz : items.size ≤ 1000) (hpl : ∀ (i : Nat) v, items[i]? = some v → plainIs v v = true) :
    wpAny (model prog w) A (call (.ref a) [.ref d1, .ref d2]) (fun v s' => v = .bool true ∧ Keeps s s') E s := by
  refine callDef 12 (binds := [("told", .ref d1), ("due", .ref d2)]) T (by decide) ha R.room (fun _ _ _ => rfl) ?_ ?_
  · intro x hx
    simp only [List.mem_cons, List.not_mem_nil, or_false] at hx
    rcases hx with rfl | rfl <;> exact .inr ⟨rfl, rfl⟩
  have hA0 := R.h
  intro L cd h₁ tk hL F
  have ht : (bindC (envAt 12 L a cd).kindOf [("told", .ref d1), ("due", .ref d2)] fun _ => none) "told" = some (.ref d1) := rfl
  have hd : (bindC (envAt 12 L a cd).kindOf [("told", .ref d1), ("due", .ref d2)] fun _ => none) "due" = some (.ref d2) := rfl
  generalize (bindL (envAt 12 L a cd).kindOf [("told", .ref d1), ("due", .ref d2)] fun _ => none) = m at F
  generalize (bindC (envAt 12 L a cd).kindOf [("told", .ref d1), ("due", .ref d2)] fun _ => none) = cm at F ht hd
  have R0 : Rm (A.deeper (envAt 12 L a cd)) 0 := Rm.deeper R
  have hE : ∀ f s', Ends s.heap { s with heap := h₁, toks := tk } (.bool true) f s' → (match f with | .ret v => v | _ => .none) = Value.bool true ∧ Keeps s s' := by
    rintro f s' ⟨rfl, h', tk', rfl, k⟩
    exact ⟨rfl, h', tk', rfl, k⟩
  refine wpAny_mono ?_ hE fun _ _ e => e
  clear hE
  have T1 := T.keeps F.keep
  have h1' : h₁.IsList d1 items := h1.at fun o e => F.keep _ o e
  have h2' : h₁.IsList d2 items := h2.at fun o e => F.keep _ o e
  refine wpAny_execs_cons (wpAny_Return_some (wpAny_Compare1 ?_))
  refine wpAny_ListComp_free (fun _ => false) (fun _ _ => False) (cl := [("told", L + 1), ("due", L + 1 + 1)]) rfl (by decide) rfl (by decide) rfl ?_
  refine callT1 T1 b_range ?_
  refine callB1 T1 b_len ?_
  refine nmC F hd ?_
  refine call_len_list h2' (by omega) ?_
  refine rangeIter1 (n := items.size) (by omega) fun h2 tk2 I K2 hI0 hI1 hI2 => ?_
  have hII : ∀ b o, h₁.get? b = some o → b ∉ [I] := fun b o e hm => by
    have : b = I := by simpa using hm
    subst this
    have e' : h₁.get? b = none := hI0
    rw [e'] at e; cases e
  refine ⟨I, [I], [I], items.size, _, _, rfl, walksLt (Walks.range R0.h I 0 1 items.size), by rw [sizeLine_eq]; omega, by simpa using hI2, by simpa using hI1, ⟨?_, ?_⟩, ?_⟩
  · intro C i v s₃ m₃ E' hC hP hn hm hold htk
    obtain ⟨hin, ti, rfl⟩ := hP
    have old : ∀ b o, h₁.get? b = some o → s₃.heap.get? b = some o := fun b o e => hold b o (hII b o e) (K2 b o e)
    have F3 := F.kept old
    have c1 := F3.cell "told" _ rfl
    have c2 := F3.cell "due" _ rfl
    rw [ht] at c1
    rw [hd] at c2
    refine wpAny_tests_one (wpAny_isTrue_Compare1 ?_)
    refine Subscript_ (wpAny_Name (wpAny_loadName_cell rfl rfl rfl c1 ?_) rfl)
    refine wpAny_Name (wpAny_loadName_local rfl rfl hn hm ?_) rfl
    have hx : items[((0 : Int) + (i : Nat) * 1).toNat]? = some items[i] := by
      have : ((0 : Int) + (i : Nat) * 1).toNat = i := by omega
      rw [this]; simp [hin]
    refine itemL (h1'.at fun o e => old _ o e) (by omega) (by omega) hx ?_
    refine Subscript_ (wpAny_Name (wpAny_loadName_cell rfl rfl rfl c2 ?_) rfl)
    refine wpAny_Name (wpAny_loadName_local rfl rfl hn hm ?_) rfl
    refine itemL (h2'.at fun o e => old _ o e) (by omega) (by omega) hx ?_
    refine wpAny_isNot_self (hpl i _ (by simp [hin])) (wpAny_truthy_bool ⟨rfl, _, _, rfl, fun b o e => e⟩)
  · intro C i v s₃ m₃ E' hC hP hpv
    cases hpv
  · intro D h' tk' ys vs hnew hl hpl' hlen hP hF hk
    have hys : ys = #[] := by
      have : vs.filter (fun _ => false) = [] := by simp
      rw [this] at hF
      cases hF' : ys.toList with
      | nil => simpa using hF'
      | cons y r => rw [hF'] at hF; cases hF
    subst hys
    refine wpAny_List (wpAny_items_nil ⟨Nat.zero_le _, ?_⟩)
    refine eqNil (hl.push _) ⟨_, Heap.get?_push_size _ rfl, rfl, _, rfl⟩ R0.units ?_
    exact ⟨rfl, _, _, rfl, fun b o e => Heap.get?_push_of_some _ (hk b o (hII b o (F.keep b o e)) (K2 b o (F.keep b o e)))⟩
end
end Mine
end

section
open PySem PySem.W PyProof.Rows
namespace Mine
open PySem.Calls Builtin Builtin.Frozenset

section
variable {prog : Program} {w : World} {A : Around} {E : Value → Shared → Prop} {s : Shared} {v v' : Addr} {S S' : Int → Bool} {n n' : Nat}

theorem int_of_elem {e : Int × Value} {k : Int} (h : (intKind prog w).is k e.2 = true) : ∃ t, e.2 = .int k t := by
  obtain ⟨h1, x⟩ := e
  simp only [intKind] at h
  cases x with
  | int j t => exact ⟨t, by simp [Value.isInt] at h; rw [h]⟩
  | _ => simp [Value.isInt] at h

theorem wpAny_sizeOf {Q : Nat → Shared → Prop} (hS : s.heap.SetOf (intKind prog w) v S n) (h : Q n s) : wpAny (model prog w) A (Frozenset.sizeOf v) Q E s := by
  obtain ⟨o, es, ep, t, ho, hex, hd, hel, hmem, hb, hf, rfl⟩ := hS
  unfold Frozenset.sizeOf
  exact wpAny_bind (wpAny_setEntries_of ho hd hf (wpAny_pure h))

theorem wpAny_quietWalk {Q : List (Int × Value) → Shared → Prop} (hs : s.heap.SetOf (intKind prog w) v S n) (hs' : s.heap.SetOf (intKind prog w) v' S' n')
    (h : ∀ es, ElemsOf (intKind prog w) es → (∀ k, S k = true ↔ ∃ e ∈ es, (intKind prog w).is k e.2 = true) → Q es s) :
    wpAny (model prog w) A (Frozenset.walkUnseen v v') Q E s := by
  obtain ⟨o, es, ep, t, ho, hex, hd, hel, hmem, hb, hf, rfl⟩ := hs
  obtain ⟨o', es', ep', t', ho', hex', hd', hel', hmem', hb', hf', rfl⟩ := hs'
  unfold Frozenset.walkUnseen
  refine wpAny_bind (wpAny_setEntries_of ho hd hf ?_)
  refine wpAny_bind (wpAny_setEntries_of ho' hd' hf' ?_)
  refine wpAny_bind ?_
  refine wpAny_forIn_list _ (fun rest b s' => b = (none, ()) ∧ s' = s ∧ ∀ e ∈ rest, ∃ k t, e.2 = Value.int k t) _ ?_ ?_ _ _ ⟨rfl, rfl, fun e he => ?_⟩
  · rintro ⟨h1, x⟩ rest b s' ⟨rfl, rfl, hr⟩
    obtain ⟨k, t1, e⟩ := hr (h1, x) List.mem_cons_self
    dsimp only at e
    subst e
    refine wpAny_bind (wpAny_of_eq (a := true) rfl ?_)
    exact wpAny_pure ⟨rfl, rfl, fun e he => hr e (List.mem_cons_of_mem _ he)⟩
  · rintro b s' ⟨rfl, rfl, _⟩
    exact wpAny_pure (h _ hel hmem)
  · rcases List.mem_append.mp he with he | he
    · obtain ⟨⟨k, hk, _⟩, _⟩ := hel e he
      obtain ⟨t1, e1⟩ := int_of_elem hk
      exact ⟨k, t1, e1⟩
    · obtain ⟨⟨k, hk, _⟩, _⟩ := hel' e he
      obtain ⟨t1, e1⟩ := int_of_elem hk
      exact ⟨k, t1, e1⟩

/-- one set lies in another one -/
theorem wpAny_subsetOf {id : String} {Q : Bool → Shared → Prop} {b : Bool} (hs : s.heap.SetOf (intKind prog w) v S n) (hs' : s.heap.SetOf (intKind prog w) v' S' n')
    (hb : b = true ↔ (n ≤ n' ∧ ∀ k, S k = true → S' k = true)) (h : Q b s) :
    wpAny (model prog w) A (Frozenset.subsetOf id v v') Q E s := by
  unfold Frozenset.subsetOf
  refine wpAny_bind (wpAny_sizeOf hs ?_)
  refine wpAny_bind (wpAny_sizeOf hs' ?_)
  by_cases hgt : n > n'
  · have e : b = false := by
      cases b with
      | false => rfl
      | true => have := (hb.mp rfl).1; omega
    subst e
    rw [if_pos hgt]
    exact wpAny_pure h
  · rw [if_neg hgt]
    obtain ⟨o, es0, ep, t, ho, hex, hd, hel0, hmem0, hb0, hf, hn⟩ := (show _ from hs)
    refine wpAny_bind (wpAny_setEpoch_of ho hd hf ?_)
    refine wpAny_bind (wpAny_quietWalk hs hs' fun es hel hmem => ?_)
    refine wpAny_bind ?_
    refine wpAny_forIn_list _ (fun rest st s' => st = (none, ()) ∧ s' = s ∧ (∀ e ∈ rest, e ∈ es) ∧ (b = true ↔ ∀ e ∈ rest, ∀ k, (intKind prog w).is k e.2 = true → S' k = true)) _ ?_ ?_ _ _ ⟨rfl, rfl, fun _ he => he, ?_⟩
    · rintro ⟨h1, x⟩ rest st s' ⟨rfl, rfl, hr, hall⟩
      obtain ⟨⟨k, hk, hh⟩, hsc⟩ := hel (h1, x) (hr _ List.mem_cons_self)
      dsimp only at hk hh hsc
      subst hh
      refine wpAny_bind (wpAny_holding (wpAny_setFind_of hk hsc hs' fun r hrS => ?_))
      cases hr' : r with
      | none =>
        rw [hr'] at hrS
        have e : b = false := by
          cases b with
          | false => rfl
          | true =>
            have := hall.mp rfl _ List.mem_cons_self k hk
            rw [this] at hrS; cases hrS
        subst e
        exact wpAny_pure (wpAny_pure h)
      | some j =>
        rw [hr'] at hrS
        refine wpAny_bind (m := Frozenset.unchanged _ _ _) ?_
        unfold Frozenset.unchanged
        refine wpAny_bind (wpAny_setEpoch_of ho hd hf ?_)
        simp only [bne_self_eq_false, Bool.false_eq_true, if_false]
        refine wpAny_pure (wpAny_pure ⟨rfl, rfl, fun e he => hr e (List.mem_cons_of_mem _ he), ?_⟩)
        rw [hall]
        constructor
        · exact fun h e he => h e (List.mem_cons_of_mem _ he)
        · intro h e he k' hk'
          rcases List.mem_cons.mp he with rfl | he
          · have : k' = k := (intKind prog w).inj _ _ _ hk' hk
            subst this
            exact hrS.symm
          · exact h e he k' hk'
    · rintro st s' ⟨rfl, rfl, _, hall⟩
      have e : b = true := hall.mpr fun e he => nomatch he
      subst e
      exact wpAny_pure h
    · rw [hb]
      constructor
      · rintro ⟨_, h2⟩ e he k hk
        exact h2 k ((hmem k).mpr ⟨e, he, hk⟩)
      · intro h2
        refine ⟨by omega, fun k hk => ?_⟩
        obtain ⟨e, he, hke⟩ := (hmem k).mp hk
        exact h2 e he k hke
end
end Mine
end

section
open PySem PySem.W PyProof.Rows
namespace Mine
theorem entry_set_lt : entryFor table "set.__lt__" = some Builtin.«frozenset.__lt__» :=
  entryFor_alias (id' := "frozenset.__lt__") (by rw [fastTable_eq_tree]; kernel_rfl) rfl (by decide +kernel) (by rw [fastTable_eq_tree]; kernel_rfl)
theorem entry_set_le : entryFor table "set.__le__" = some Builtin.«frozenset.__le__» :=
  entryFor_alias (id' := "frozenset.__le__") (by rw [fastTable_eq_tree]; kernel_rfl) rfl (by decide +kernel) (by rw [fastTable_eq_tree]; kernel_rfl)
theorem entry_set_gt : entryFor table "set.__gt__" = some Builtin.«frozenset.__gt__» :=
  entryFor_alias (id' := "frozenset.__gt__") (by rw [fastTable_eq_tree]; kernel_rfl) rfl (by decide +kernel) (by rw [fastTable_eq_tree]; kernel_rfl)
theorem entry_set_ge : entryFor table "set.__ge__" = some Builtin.«frozenset.__ge__» :=
  entryFor_alias (id' := "frozenset.__ge__") (by rw [fastTable_eq_tree]; kernel_rfl) rfl (by decide +kernel) (by rw [fastTable_eq_tree]; kernel_rfl)
theorem entry_set_eq : entryFor table "set.__eq__" = some Builtin.«frozenset.__eq__» :=
  entryFor_alias (id' := "frozenset.__eq__") (by rw [fastTable_eq_tree]; kernel_rfl) rfl (by decide +kernel) (by rw [fastTable_eq_tree]; kernel_rfl)
theorem entry_set_ne : entryFor table "set.__ne__" = some Builtin.«frozenset.__ne__» :=
  entryFor_alias (id' := "frozenset.__ne__") (by rw [fastTable_eq_tree]; kernel_rfl) rfl (by decide +kernel) (by rw [fastTable_eq_tree]; kernel_rfl)
end Mine
end

section
open PySem PySem.W PyProof.Rows
namespace Mine
open PySem.Calls Builtin Builtin.Frozenset

section
variable {prog : Program} {w : World} {A : Around} {E : Value → Shared → Prop} {s : Shared} {v v' d : Addr} {S S' : Int → Bool} {n n' : Nat} {items : Array Value}

theorem anySet_set {Q : Bool → Shared → Prop} (hT : s.TypeIs (.ref v) "set") (h : Q true s) : wpAny (model prog w) A (isAnySet (.ref v)) Q E s := by
  unfold isAnySet
  show wpAny _ A (isInstance _ _ >>= _) _ _ _
  refine wpAny_bind (wpAny_isInstance hT PySem.F.sub_set_set ?_)
  exact wpAny_pure h
theorem anySet_list {Q : Bool → Shared → Prop} (hT : s.TypeIs (.ref v) "list") (h : Q false s) : wpAny (model prog w) A (isAnySet (.ref v)) Q E s := by
  unfold isAnySet
  show wpAny _ A (isInstance _ _ >>= _) _ _ _
  refine wpAny_bind (wpAny_isInstance hT PySem.F.sub_list_set ?_)
  exact wpAny_isInstance hT PySem.F.sub_list_frozenset h

theorem lt_sets {b : Bool} {Q : Value → Shared → Prop} (hs : s.heap.SetOf (intKind prog w) v S n) (hs' : s.heap.SetOf (intKind prog w) v' S' n') (hb : b = true ↔ (n < n' ∧ ∀ k, S k = true → S' k = true)) (h : Q (.bool b) s) :
    wpAny (model prog w) A (call (.builtin "set.__lt__") [.ref v, .ref v']) Q E s := by
  refine wpAny_call_entry F.slot_set_lt hs.typeIs entry_set_lt ?_ (F.args_set_lt_2 _ _)
  refine wpAny_bind (wpAny_of_eq (a := (Value.ref v, Value.ref v')) rfl ?_)
  refine wpAny_bind (anySet_set hs'.typeIs ?_)
  refine wpAny_bind (wpAny_of_eq (a := v) rfl ?_)
  refine wpAny_bind (wpAny_of_eq (a := v') rfl ?_)
  refine wpAny_bind (wpAny_sizeOf hs ?_)
  refine wpAny_bind (wpAny_sizeOf hs' ?_)
  dsimp only
  by_cases hge : n ≥ n'
  · have e : b = false := by
      cases b with
      | false => rfl
      | true => have := (hb.mp rfl).1; omega
    subst e
    rw [if_pos hge]
    exact wpAny_pure ⟨_, rfl, h⟩
  · rw [if_neg hge]
    exact wpAny_bind (wpAny_subsetOf hs hs' (hb.trans ⟨fun h => ⟨by omega, h.2⟩, fun h => ⟨by omega, h.2⟩⟩) (wpAny_pure ⟨_, rfl, h⟩))
theorem gt_sets {b : Bool} {Q : Value → Shared → Prop} (hs : s.heap.SetOf (intKind prog w) v S n) (hs' : s.heap.SetOf (intKind prog w) v' S' n') (hb : b = true ↔ (n' < n ∧ ∀ k, S' k = true → S k = true)) (h : Q (.bool b) s) :
    wpAny (model prog w) A (call (.builtin "set.__gt__") [.ref v, .ref v']) Q E s := by
  refine wpAny_call_entry F.slot_set_gt hs.typeIs entry_set_gt ?_ (F.args_set_gt_2 _ _)
  refine wpAny_bind (wpAny_of_eq (a := (Value.ref v, Value.ref v')) rfl ?_)
  refine wpAny_bind (anySet_set hs'.typeIs ?_)
  refine wpAny_bind (wpAny_of_eq (a := v) rfl ?_)
  refine wpAny_bind (wpAny_of_eq (a := v') rfl ?_)
  refine wpAny_bind (wpAny_sizeOf hs ?_)
  refine wpAny_bind (wpAny_sizeOf hs' ?_)
  dsimp only
  by_cases hge : n ≤ n'
  · have e : b = false := by
      cases b with
      | false => rfl
      | true => have := (hb.mp rfl).1; omega
    subst e
    rw [if_pos hge]
    exact wpAny_pure ⟨_, rfl, h⟩
  · rw [if_neg hge]
    exact wpAny_bind (wpAny_subsetOf hs' hs (hb.trans ⟨fun h => ⟨by omega, h.2⟩, fun h => ⟨by omega, h.2⟩⟩) (wpAny_pure ⟨_, rfl, h⟩))
theorem le_sets {b : Bool} {Q : Value → Shared → Prop} (hs : s.heap.SetOf (intKind prog w) v S n) (hs' : s.heap.SetOf (intKind prog w) v' S' n') (hb : b = true ↔ (n ≤ n' ∧ ∀ k, S k = true → S' k = true)) (h : Q (.bool b) s) :
    wpAny (model prog w) A (call (.builtin "set.__le__") [.ref v, .ref v']) Q E s := by
  refine wpAny_call_entry F.slot_set_le hs.typeIs entry_set_le ?_ (F.args_set_le_2 _ _)
  refine wpAny_bind (wpAny_of_eq (a := (Value.ref v, Value.ref v')) rfl ?_)
  refine wpAny_bind (anySet_set hs'.typeIs ?_)
  refine wpAny_bind (wpAny_of_eq (a := v) rfl ?_)
  refine wpAny_bind (wpAny_of_eq (a := v') rfl ?_)
  refine wpAny_bind (wpAny_sizeOf hs ?_)
  refine wpAny_bind (wpAny_sizeOf hs' ?_)
  exact wpAny_bind (wpAny_subsetOf hs hs' hb (wpAny_pure ⟨_, rfl, h⟩))
theorem ge_sets {b : Bool} {Q : Value → Shared → Prop} (hs : s.heap.SetOf (intKind prog w) v S n) (hs' : s.heap.SetOf (intKind prog w) v' S' n') (hb : b = true ↔ (n' ≤ n ∧ ∀ k, S' k = true → S k = true)) (h : Q (.bool b) s) :
    wpAny (model prog w) A (call (.builtin "set.__ge__") [.ref v, .ref v']) Q E s := by
  refine wpAny_call_entry F.slot_set_ge hs.typeIs entry_set_ge ?_ (F.args_set_ge_2 _ _)
  refine wpAny_bind (wpAny_of_eq (a := (Value.ref v, Value.ref v')) rfl ?_)
  refine wpAny_bind (anySet_set hs'.typeIs ?_)
  refine wpAny_bind (wpAny_of_eq (a := v) rfl ?_)
  refine wpAny_bind (wpAny_of_eq (a := v') rfl ?_)
  refine wpAny_bind (wpAny_sizeOf hs ?_)
  refine wpAny_bind (wpAny_sizeOf hs' ?_)
  exact wpAny_bind (wpAny_subsetOf hs' hs hb (wpAny_pure ⟨_, rfl, h⟩))
theorem eq_sets {b : Bool} {Q : Value → Shared → Prop} (hs : s.heap.SetOf (intKind prog w) v S n) (hs' : s.heap.SetOf (intKind prog w) v' S' n') (hb : b = true ↔ (n = n' ∧ ∀ k, S k = true → S' k = true)) (h : Q (.bool b) s) :
    wpAny (model prog w) A (call (.builtin "set.__eq__") [.ref v, .ref v']) Q E s := by
  refine wpAny_call_entry F.slot_set_eq hs.typeIs entry_set_eq ?_ (F.args_set_eq_2 _ _)
  refine wpAny_bind (wpAny_of_eq (a := (Value.ref v, Value.ref v')) rfl ?_)
  refine wpAny_bind (anySet_set hs'.typeIs ?_)
  refine wpAny_bind (wpAny_of_eq (a := v) rfl ?_)
  refine wpAny_bind (wpAny_of_eq (a := v') rfl ?_)
  refine wpAny_bind (wpAny_sizeOf hs ?_)
  refine wpAny_bind (wpAny_sizeOf hs' ?_)
  dsimp only
  refine wpAny_bind ?_
  by_cases hne : (n != n') = true
  · have e : b = false := by
      have hne' : n ≠ n' := by simpa using hne
      cases b with
      | false => rfl
      | true => exact absurd (hb.mp rfl).1 hne'
    subst e
    rw [if_pos hne]
    exact wpAny_pure (wpAny_pure ⟨_, rfl, h⟩)
  · rw [if_neg hne]
    have he : n = n' := by simpa using hne
    refine wpAny_bind ?_
    show wpAny _ _ (isInstance _ _ >>= _) _ _ _
    refine wpAny_bind (wpAny_isInstance hs.typeIs PySem.F.sub_set_frozenset (wpAny_pure ?_))
    rw [if_neg (by decide)]
    refine wpAny_subsetOf (b := b) hs hs' ?_ (wpAny_pure ⟨_, rfl, ?_⟩)
    · exact hb.trans ⟨fun h => ⟨by omega, h.2⟩, fun h => ⟨he, h.2⟩⟩
    · exact h
theorem ne_sets {b : Bool} {Q : Value → Shared → Prop} (hs : s.heap.SetOf (intKind prog w) v S n) (hs' : s.heap.SetOf (intKind prog w) v' S' n') (hb : b = false ↔ (n = n' ∧ ∀ k, S k = true → S' k = true)) (h : Q (.bool b) s) :
    wpAny (model prog w) A (call (.builtin "set.__ne__") [.ref v, .ref v']) Q E s := by
  refine wpAny_call_entry F.slot_set_ne hs.typeIs entry_set_ne ?_ (F.args_set_ne_2 _ _)
  refine wpAny_bind (wpAny_of_eq (a := (Value.ref v, Value.ref v')) rfl ?_)
  refine wpAny_bind (anySet_set hs'.typeIs ?_)
  refine wpAny_bind (wpAny_of_eq (a := v) rfl ?_)
  refine wpAny_bind (wpAny_of_eq (a := v') rfl ?_)
  refine wpAny_bind (wpAny_sizeOf hs ?_)
  refine wpAny_bind (wpAny_sizeOf hs' ?_)
  dsimp only
  refine wpAny_bind ?_
  by_cases hne : (n != n') = true
  · have e : b = true := by
      have hne' : n ≠ n' := by simpa using hne
      cases b with
      | true => rfl
      | false => exact absurd (hb.mp rfl).1 hne'
    subst e
    rw [if_pos hne]
    exact wpAny_pure (wpAny_pure ⟨_, rfl, h⟩)
  · rw [if_neg hne]
    have he : n = n' := by simpa using hne
    refine wpAny_bind ?_
    show wpAny _ _ (isInstance _ _ >>= _) _ _ _
    refine wpAny_bind (wpAny_isInstance hs.typeIs PySem.F.sub_set_frozenset (wpAny_pure ?_))
    rw [if_neg (by decide)]
    refine wpAny_subsetOf (b := !b) hs hs' ?_ (wpAny_pure ⟨_, rfl, ?_⟩)
    · rw [Bool.not_eq_true']
      exact hb.trans ⟨fun h => ⟨by omega, h.2⟩, fun h => ⟨he, h.2⟩⟩
    · rw [Bool.not_not]; exact h
theorem lt_list {Q : Value → Shared → Prop} (hs : s.heap.SetOf (intKind prog w) v S n) (hl : s.heap.IsList d items) (h : Q .notImplemented s) :
    wpAny (model prog w) A (call (.builtin "set.__lt__") [.ref v, .ref d]) Q E s := by
  refine wpAny_call_entry F.slot_set_lt hs.typeIs entry_set_lt ?_ (F.args_set_lt_2 _ _)
  refine wpAny_bind (wpAny_of_eq (a := (Value.ref v, Value.ref d)) rfl ?_)
  refine wpAny_bind (anySet_list hl.typeIs ?_)
  exact wpAny_bind (wpAny_rule (wpAny_pure ⟨_, rfl, h⟩))
theorem le_list {Q : Value → Shared → Prop} (hs : s.heap.SetOf (intKind prog w) v S n) (hl : s.heap.IsList d items) (h : Q .notImplemented s) :
    wpAny (model prog w) A (call (.builtin "set.__le__") [.ref v, .ref d]) Q E s := by
  refine wpAny_call_entry F.slot_set_le hs.typeIs entry_set_le ?_ (F.args_set_le_2 _ _)
  refine wpAny_bind (wpAny_of_eq (a := (Value.ref v, Value.ref d)) rfl ?_)
  refine wpAny_bind (anySet_list hl.typeIs ?_)
  exact wpAny_bind (wpAny_rule (wpAny_pure ⟨_, rfl, h⟩))
theorem gt_list {Q : Value → Shared → Prop} (hs : s.heap.SetOf (intKind prog w) v S n) (hl : s.heap.IsList d items) (h : Q .notImplemented s) :
    wpAny (model prog w) A (call (.builtin "set.__gt__") [.ref v, .ref d]) Q E s := by
  refine wpAny_call_entry F.slot_set_gt hs.typeIs entry_set_gt ?_ (F.args_set_gt_2 _ _)
  refine wpAny_bind (wpAny_of_eq (a := (Value.ref v, Value.ref d)) rfl ?_)
  refine wpAny_bind (anySet_list hl.typeIs ?_)
  exact wpAny_bind (wpAny_rule (wpAny_pure ⟨_, rfl, h⟩))
theorem ge_list {Q : Value → Shared → Prop} (hs : s.heap.SetOf (intKind prog w) v S n) (hl : s.heap.IsList d items) (h : Q .notImplemented s) :
    wpAny (model prog w) A (call (.builtin "set.__ge__") [.ref v, .ref d]) Q E s := by
  refine wpAny_call_entry F.slot_set_ge hs.typeIs entry_set_ge ?_ (F.args_set_ge_2 _ _)
  refine wpAny_bind (wpAny_of_eq (a := (Value.ref v, Value.ref d)) rfl ?_)
  refine wpAny_bind (anySet_list hl.typeIs ?_)
  exact wpAny_bind (wpAny_rule (wpAny_pure ⟨_, rfl, h⟩))
end
end Mine
end

section
open PySem PySem.W PyProof.Rows
namespace Mine
open PySem.Calls PySem.Builtin

theorem bare_wrap : bareKinds.contains (Value.type "wrapper_descriptor") = true := by decide +kernel
theorem type_set : typeOf (.type "set") = pure (.type "type") := by first | rfl | kernel_rfl
theorem stub_set : Manifest.isStub "set" = false := by decide +kernel
theorem in_nil {h : Heap} : Frag.In [] h := fun _ _ h => by cases h

theorem fobj_lt : findIn [] (.type "type") (Str.ofString "__lt__") = some (some (.builtin "object.__lt__")) := by decide +kernel
theorem fset_lt : findIn [] (.type "set") (Str.ofString "__lt__") = some (some (.builtin "set.__lt__")) := by decide +kernel
theorem ftyp_lt : typeIn [] (.builtin "set.__lt__") = some (.type "wrapper_descriptor") := by decide +kernel
theorem fget_lt : specialIn [] (.builtin "object.__lt__") "__get__" = some (some (.builtin "wrapper_descriptor.__get__")) := by decide +kernel
theorem ftak_lt : takesIn [] (.builtin "object.__lt__") = some false := by decide +kernel
theorem fheld_lt : heldUnderItsOwnName (Str.ofString "__lt__") (.builtin "set.__lt__") = false := by decide +kernel
theorem handed_lt : handedIn (.builtin "set.__lt__") = true := by decide +kernel
theorem found_lt : findCls [] (.type "set") (.type "type") (Str.ofString "__lt__") = some (.val (.builtin "set.__lt__")) := by
  unfold findCls
  rw [fobj_lt]
  simp only [Option.bind_some]
  rw [fget_lt]
  simp only [Option.bind_some]
  rw [ftak_lt]
  simp only [Option.bind_some]
  rw [fset_lt]
  simp only [Option.bind_some]
  rw [fheld_lt, ftyp_lt]
  simp only [Option.bind_some, bare_wrap]
  rfl

theorem fobj_le : findIn [] (.type "type") (Str.ofString "__le__") = some (some (.builtin "object.__le__")) := by decide +kernel
theorem fset_le : findIn [] (.type "set") (Str.ofString "__le__") = some (some (.builtin "set.__le__")) := by decide +kernel
theorem ftyp_le : typeIn [] (.builtin "set.__le__") = some (.type "wrapper_descriptor") := by decide +kernel
theorem fget_le : specialIn [] (.builtin "object.__le__") "__get__" = some (some (.builtin "wrapper_descriptor.__get__")) := by decide +kernel
theorem ftak_le : takesIn [] (.builtin "object.__le__") = some false := by decide +kernel
theorem fheld_le : heldUnderItsOwnName (Str.ofString "__le__") (.builtin "set.__le__") = false := by decide +kernel
theorem handed_le : handedIn (.builtin "set.__le__") = true := by decide +kernel
theorem found_le : findCls [] (.type "set") (.type "type") (Str.ofString "__le__") = some (.val (.builtin "set.__le__")) := by
  unfold findCls
  rw [fobj_le]
  simp only [Option.bind_some]
  rw [fget_le]
  simp only [Option.bind_some]
  rw [ftak_le]
  simp only [Option.bind_some]
  rw [fset_le]
  simp only [Option.bind_some]
  rw [fheld_le, ftyp_le]
  simp only [Option.bind_some, bare_wrap]
  rfl

theorem fobj_gt : findIn [] (.type "type") (Str.ofString "__gt__") = some (some (.builtin "object.__gt__")) := by decide +kernel
theorem fset_gt : findIn [] (.type "set") (Str.ofString "__gt__") = some (some (.builtin "set.__gt__")) := by decide +kernel
theorem ftyp_gt : typeIn [] (.builtin "set.__gt__") = some (.type "wrapper_descriptor") := by decide +kernel
theorem fget_gt : specialIn [] (.builtin "object.__gt__") "__get__" = some (some (.builtin "wrapper_descriptor.__get__")) := by decide +kernel
theorem ftak_gt : takesIn [] (.builtin "object.__gt__") = some false := by decide +kernel
theorem fheld_gt : heldUnderItsOwnName (Str.ofString "__gt__") (.builtin "set.__gt__") = false := by decide +kernel
theorem handed_gt : handedIn (.builtin "set.__gt__") = true := by decide +kernel
theorem found_gt : findCls [] (.type "set") (.type "type") (Str.ofString "__gt__") = some (.val (.builtin "set.__gt__")) := by
  unfold findCls
  rw [fobj_gt]
  simp only [Option.bind_some]
  rw [fget_gt]
  simp only [Option.bind_some]
  rw [ftak_gt]
  simp only [Option.bind_some]
  rw [fset_gt]
  simp only [Option.bind_some]
  rw [fheld_gt, ftyp_gt]
  simp only [Option.bind_some, bare_wrap]
  rfl

theorem fobj_ge : findIn [] (.type "type") (Str.ofString "__ge__") = some (some (.builtin "object.__ge__")) := by decide +kernel
theorem fset_ge : findIn [] (.type "set") (Str.ofString "__ge__") = some (some (.builtin "set.__ge__")) := by decide +kernel
theorem ftyp_ge : typeIn [] (.builtin "set.__ge__") = some (.type "wrapper_descriptor") := by decide +kernel
theorem fget_ge : specialIn [] (.builtin "object.__ge__") "__get__" = some (some (.builtin "wrapper_descriptor.__get__")) := by decide +kernel
theorem ftak_ge : takesIn [] (.builtin "object.__ge__") = some false := by decide +kernel
theorem fheld_ge : heldUnderItsOwnName (Str.ofString "__ge__") (.builtin "set.__ge__") = false := by decide +kernel
theorem handed_ge : handedIn (.builtin "set.__ge__") = true := by decide +kernel
theorem found_ge : findCls [] (.type "set") (.type "type") (Str.ofString "__ge__") = some (.val (.builtin "set.__ge__")) := by
  unfold findCls
  rw [fobj_ge]
  simp only [Option.bind_some]
  rw [fget_ge]
  simp only [Option.bind_some]
  rw [ftak_ge]
  simp only [Option.bind_some]
  rw [fset_ge]
  simp only [Option.bind_some]
  rw [fheld_ge, ftyp_ge]
  simp only [Option.bind_some, bare_wrap]
  rfl

end Mine
end

section
open PySem PySem.W PyProof.Rows
namespace Mine
open PySem.Calls PySem.Builtin

theorem Fm.fr {h₀ h : Heap} {L : Addr} {m cm : Str → Option Value} {cs : List (Str × Addr)} (F : Fm h₀ L m cs cm h) : Fr h₀ L h m := ⟨F.ns, F.keep, F.above⟩

section
variable {prog : Program} {w : World} {A : Around} {E : Value → Shared → Prop} {s : Shared} {v v' d : Addr} {S S' : Int → Bool} {n n' : Nat} {items : Array Value} {h₀ : Heap} {L a : Addr} {m : Str → Option Value}
theorem attr_lt {pl : Sem Bool} {Q : Value × List Value → Shared → Prop} (F : Fr h₀ L s.heap m) (h : Q (.builtin "set.__lt__", []) { s with toks := s.toks + 1 }) : wpAny (model prog w) A (getMethod (.type "set") (Str.ofString "__lt__") pl) Q E s := by
  have h1 := found_lt
  have h2 := handed_lt
  have h3 := type_set
  have h4 := stub_set
  generalize hv : Value.builtin "set.__lt__" = vv at h h1 h2
  exact method_type (K := []) (name := Str.ofString "__lt__") (T := "set") (v := vv) F in_nil h3 h4 h1 h2 h
theorem attr_le {pl : Sem Bool} {Q : Value × List Value → Shared → Prop} (F : Fr h₀ L s.heap m) (h : Q (.builtin "set.__le__", []) { s with toks := s.toks + 1 }) : wpAny (model prog w) A (getMethod (.type "set") (Str.ofString "__le__") pl) Q E s := by
  have h1 := found_le
  have h2 := handed_le
  have h3 := type_set
  have h4 := stub_set
  generalize hv : Value.builtin "set.__le__" = vv at h h1 h2
  exact method_type (K := []) (name := Str.ofString "__le__") (T := "set") (v := vv) F in_nil h3 h4 h1 h2 h
theorem attr_gt {pl : Sem Bool} {Q : Value × List Value → Shared → Prop} (F : Fr h₀ L s.heap m) (h : Q (.builtin "set.__gt__", []) { s with toks := s.toks + 1 }) : wpAny (model prog w) A (getMethod (.type "set") (Str.ofString "__gt__") pl) Q E s := by
  have h1 := found_gt
  have h2 := handed_gt
  have h3 := type_set
  have h4 := stub_set
  generalize hv : Value.builtin "set.__gt__" = vv at h h1 h2
  exact method_type (K := []) (name := Str.ofString "__gt__") (T := "set") (v := vv) F in_nil h3 h4 h1 h2 h
theorem attr_ge {pl : Sem Bool} {Q : Value × List Value → Shared → Prop} (F : Fr h₀ L s.heap m) (h : Q (.builtin "set.__ge__", []) { s with toks := s.toks + 1 }) : wpAny (model prog w) A (getMethod (.type "set") (Str.ofString "__ge__") pl) Q E s := by
  have h1 := found_ge
  have h2 := handed_ge
  have h3 := type_set
  have h4 := stub_set
  generalize hv : Value.builtin "set.__ge__" = vv at h h1 h2
  exact method_type (K := []) (name := Str.ofString "__ge__") (T := "set") (v := vv) F in_nil h3 h4 h1 h2 h

variable {mg mb : Str → Option Value}

theorem eq_two {b : Bool} {Q : Value → Shared → Prop} (hu : A.units < cLine) (hs : s.heap.SetOf (intKind prog w) v S n) (hs' : s.heap.SetOf (intKind prog w) v' S' n') (hb : b = true ↔ (n = n' ∧ ∀ k, S k = true → S' k = true)) (h : Q (.bool b) s) :
    wpAny (model prog w) A (compareOp .Eq (.ref v) (.ref v')) Q E s := by
  show wpAny _ _ (richCompare .Eq _ _) _ _ _
  exact wpAny_richCompare_same_or hs.typeIs hs'.typeIs PySem.F.slot_set_eq (eq_sets hs hs' hb ⟨(fun x => nomatch x), h⟩) (.inr hu)
theorem ne_two {b : Bool} {Q : Value → Shared → Prop} (hu : A.units < cLine) (hs : s.heap.SetOf (intKind prog w) v S n) (hs' : s.heap.SetOf (intKind prog w) v' S' n') (hb : b = false ↔ (n = n' ∧ ∀ k, S k = true → S' k = true)) (h : Q (.bool b) s) :
    wpAny (model prog w) A (compareOp .NotEq (.ref v) (.ref v')) Q E s := by
  show wpAny _ _ (richCompare .NotEq _ _) _ _ _
  exact wpAny_richCompare_same_or hs.typeIs hs'.typeIs PySem.F.slot_set_ne (ne_sets hs hs' hb ⟨(fun x => nomatch x), h⟩) (.inr hu)

theorem SetOf_keeps {h h' : Heap} (x : h.SetOf (intKind prog w) v S n) (k : Stays h h') : h'.SetOf (intKind prog w) v S n :=
  let ⟨o, es, ep, t, ho, r⟩ := x; ⟨o, es, ep, t, k _ _ ho, r⟩

end
end Mine
end

section
open PySem PySem.W PyProof.Rows
namespace Mine
open PySem.Calls
section
variable {prog : Program} {w : World} {A : Around} {E : Value → Shared → Prop} {s : Shared} {v v' d : Addr} {S S' : Int → Bool} {n n' : Nat} {items : Array Value} {a : Addr} {mg mb : Str → Option Value}

set_option maxHeartbeats 4000000 in
theorem call_1_sets {b : Bool} (R : Rm A 1) (T : Wd mg mb s.heap) (ha : mg (defAt 1).name = some (.ref a)) (hs : s.heap.SetOf (intKind prog w) v S n) (hs' : s.heap.SetOf (intKind prog w) v' S' n')
    (hb : b = true ↔ ((n < n' ∧ ∀ k, S k = true → S' k = true) ∨ (n = n' ∧ ∀ k, S k = true → S' k = true))) :
    wpAny (model prog w) A (call (.ref a) [.ref v, .ref v']) (fun r s' => r = .bool b ∧ Keeps s s') E s := by
  refine callDef 1 (binds := [("self", .ref v), ("other", .ref v')]) T (by decide) ha R.room (fun _ _ _ => rfl) ?_ ?_
  · intro x hx
    simp only [List.mem_cons, List.not_mem_nil, or_false] at hx
    rcases hx with rfl | rfl <;> exact .inl rfl
  intro L cd h₁ tk hL F
  have hself : (bindL (envAt 1 L a cd).kindOf [("self", .ref v), ("other", .ref v')] fun _ => none) "self" = some (.ref v) := rfl
  have hother : (bindL (envAt 1 L a cd).kindOf [("self", .ref v), ("other", .ref v')] fun _ => none) "other" = some (.ref v') := rfl
  generalize (bindL (envAt 1 L a cd).kindOf [("self", .ref v), ("other", .ref v')] fun _ => none) = m at F hself hother
  generalize (bindC (envAt 1 L a cd).kindOf [("self", .ref v), ("other", .ref v')] fun _ => none) = cm at F
  have R0 : Rm (A.deeper (envAt 1 L a cd)) 0 := Rm.deeper R
  have T1 := T.keeps F.keep
  have hs1 := SetOf_keeps hs F.keep
  have hs2 := SetOf_keeps hs' F.keep
  refine wpAny_execs_cons (wpAny_Assign_Name ?_)
  refine methodCall_KW (pl := do return (← importBound _ _).getD true) ?_
  refine callT1 T1 b_type ?_
  refine nmL F hself ?_
  refine call_type_of (Tx := "set") (s := { s with heap := h₁, toks := tk }) hs1.typeIs (by decide) ?_
  refine attr_lt F.fr ?_
  refine callWith_builtin rfl (evalArgs_plain (spliced_cons ?_))
  refine nmL F hself ?_
  refine spliced_cons ?_
  refine nmL F hother ?_
  refine spliced_nil ?_
  obtain ⟨b1, hb1⟩ : ∃ b1 : Bool, b1 = true ↔ (n < n' ∧ ∀ k, S k = true → S' k = true) := by
    by_cases hc : n < n' ∧ ∀ k, S k = true → S' k = true
    · exact ⟨true, by simp only [true_iff]; exact hc⟩
    · exact ⟨false, by simp only [Bool.false_eq_true, false_iff]; exact hc⟩
  obtain ⟨b2, hb2⟩ : ∃ b2 : Bool, b2 = true ↔ (n = n' ∧ ∀ k, S k = true → S' k = true) := by
    by_cases hc : n = n' ∧ ∀ k, S k = true → S' k = true
    · exact ⟨true, by simp only [true_iff]; exact hc⟩
    · exact ⟨false, by simp only [Bool.false_eq_true, false_iff]; exact hc⟩
  refine lt_sets (b := b1) hs1 hs2 hb1 ?_
  refine stL F fun h2 F2 S2 => ?_
  have K2 : Stays s.heap h2 := F2.keep
  have T2 := T.keeps K2
  refine wpAny_execs_cons (wpAny_If (wpAny_isTrue_Compare1 ?_))
  refine nmL F2 rfl ?_
  refine nmB T2 (by decide) b_ni ?_
  refine wpAny_is_plain rfl (wpAny_truthy_bool ?_)
  refine ifF (by simp) ?_
  refine wpAny_execs_nil ?_
  refine wpAny_execs_cons (wpAny_Return_some (wpAny_Or2 ?_))
  refine nmL F2 rfl (wpAny_truthy_bool ?_)
  cases b1 with
  | true =>
    refine ifT rfl ?_
    have e : b = true := hb.mpr (.inl (hb1.mp rfl))
    subst e
    exact ⟨rfl, _, _, rfl, K2⟩
  | false =>
    refine ifF (by decide) ?_
    refine wpAny_Compare1 ?_
    refine nmL F2 (by exact hself) ?_
    refine nmL F2 (by exact hother) ?_
    refine eq_two (b := b) R0.units (SetOf_keeps hs K2) (SetOf_keeps hs' K2) ?_ ⟨rfl, _, _, rfl, K2⟩
    rw [hb]
    constructor
    · rintro (h | h)
      · exact absurd (hb1.mpr h) (by decide)
      · exact h
    · exact .inr

set_option maxHeartbeats 4000000 in
theorem call_1_list (R : Rm A 1) (T : Wd mg mb s.heap) (ha : mg (defAt 1).name = some (.ref a)) (hs : s.heap.SetOf (intKind prog w) v S n) (hl : s.heap.IsList d items) :
    wpAny (model prog w) A (call (.ref a) [.ref v, .ref d]) (fun r s' => r = .notImplemented ∧ Keeps s s') E s := by
  refine callDef 1 (binds := [("self", .ref v), ("other", .ref d)]) T (by decide) ha R.room (fun _ _ _ => rfl) ?_ ?_
  · intro x hx
    simp only [List.mem_cons, List.not_mem_nil, or_false] at hx
    rcases hx with rfl | rfl <;> exact .inl rfl
  intro L cd h₁ tk hL F
  have hself : (bindL (envAt 1 L a cd).kindOf [("self", .ref v), ("other", .ref d)] fun _ => none) "self" = some (.ref v) := rfl
  have hother : (bindL (envAt 1 L a cd).kindOf [("self", .ref v), ("other", .ref d)] fun _ => none) "other" = some (.ref d) := rfl
  generalize (bindL (envAt 1 L a cd).kindOf [("self", .ref v), ("other", .ref d)] fun _ => none) = m at F hself hother
  generalize (bindC (envAt 1 L a cd).kindOf [("self", .ref v), ("other", .ref d)] fun _ => none) = cm at F
  have R0 : Rm (A.deeper (envAt 1 L a cd)) 0 := Rm.deeper R
  have T1 := T.keeps F.keep
  have hs1 := SetOf_keeps hs F.keep
  have hl1 := hl.at fun o e => F.keep _ o e
  refine wpAny_execs_cons (wpAny_Assign_Name ?_)
  refine methodCall_KW (pl := do return (← importBound _ _).getD true) ?_
  refine callT1 T1 b_type ?_
  refine nmL F hself ?_
  refine call_type_of (Tx := "set") (s := { s with heap := h₁, toks := tk }) hs1.typeIs (by decide) ?_
  refine attr_lt F.fr ?_
  refine callWith_builtin rfl (evalArgs_plain (spliced_cons ?_))
  refine nmL F hself ?_
  refine spliced_cons ?_
  refine nmL F hother ?_
  refine spliced_nil ?_
  refine lt_list hs1 hl1 ?_
  refine stL F fun h2 F2 S2 => ?_
  have K2 : Stays s.heap h2 := F2.keep
  have T2 := T.keeps K2
  refine wpAny_execs_cons (wpAny_If (wpAny_isTrue_Compare1 ?_))
  refine nmL F2 rfl ?_
  refine nmB T2 (by decide) b_ni ?_
  refine wpAny_is_plain rfl (wpAny_truthy_bool ?_)
  refine ifT rfl ?_
  refine wpAny_execs_cons (wpAny_Return_some ?_)
  refine nmL F2 rfl ?_
  exact ⟨rfl, _, _, rfl, K2⟩

set_option maxHeartbeats 4000000 in
theorem call_2_sets {b : Bool} (R : Rm A 1) (T : Wd mg mb s.heap) (ha : mg (defAt 2).name = some (.ref a)) (hs : s.heap.SetOf (intKind prog w) v S n) (hs' : s.heap.SetOf (intKind prog w) v' S' n')
    (hb : b = true ↔ ((n ≤ n' ∧ ∀ k, S k = true → S' k = true) ∧ ¬ (n = n' ∧ ∀ k, S k = true → S' k = true))) :
    wpAny (model prog w) A (call (.ref a) [.ref v, .ref v']) (fun r s' => r = .bool b ∧ Keeps s s') E s := by
  refine callDef 2 (binds := [("self", .ref v), ("other", .ref v')]) T (by decide) ha R.room (fun _ _ _ => rfl) ?_ ?_
  · intro x hx
    simp only [List.mem_cons, List.not_mem_nil, or_false] at hx
    rcases hx with rfl | rfl <;> exact .inl rfl
  intro L cd h₁ tk hL F
  have hself : (bindL (envAt 2 L a cd).kindOf [("self", .ref v), ("other", .ref v')] fun _ => none) "self" = some (.ref v) := rfl
  have hother : (bindL (envAt 2 L a cd).kindOf [("self", .ref v), ("other", .ref v')] fun _ => none) "other" = some (.ref v') := rfl
  generalize (bindL (envAt 2 L a cd).kindOf [("self", .ref v), ("other", .ref v')] fun _ => none) = m at F hself hother
  generalize (bindC (envAt 2 L a cd).kindOf [("self", .ref v), ("other", .ref v')] fun _ => none) = cm at F
  have R0 : Rm (A.deeper (envAt 2 L a cd)) 0 := Rm.deeper R
  have T1 := T.keeps F.keep
  have hs1 := SetOf_keeps hs F.keep
  have hs2 := SetOf_keeps hs' F.keep
  refine wpAny_execs_cons (wpAny_Assign_Name ?_)
  refine methodCall_KW (pl := do return (← importBound _ _).getD true) ?_
  refine callT1 T1 b_type ?_
  refine nmL F hself ?_
  refine call_type_of (Tx := "set") (s := { s with heap := h₁, toks := tk }) hs1.typeIs (by decide) ?_
  refine attr_le F.fr ?_
  refine callWith_builtin rfl (evalArgs_plain (spliced_cons ?_))
  refine nmL F hself ?_
  refine spliced_cons ?_
  refine nmL F hother ?_
  refine spliced_nil ?_
  obtain ⟨b1, hb1⟩ : ∃ b1 : Bool, b1 = true ↔ (n ≤ n' ∧ ∀ k, S k = true → S' k = true) := by
    by_cases hc : n ≤ n' ∧ ∀ k, S k = true → S' k = true
    · exact ⟨true, by simp only [true_iff]; exact hc⟩
    · exact ⟨false, by simp only [Bool.false_eq_true, false_iff]; exact hc⟩
  obtain ⟨b2, hb2⟩ : ∃ b2 : Bool, b2 = true ↔ (n = n' ∧ ∀ k, S k = true → S' k = true) := by
    by_cases hc : n = n' ∧ ∀ k, S k = true → S' k = true
    · exact ⟨true, by simp only [true_iff]; exact hc⟩
    · exact ⟨false, by simp only [Bool.false_eq_true, false_iff]; exact hc⟩
  refine le_sets (b := b1) hs1 hs2 hb1 ?_
  refine stL F fun h2 F2 S2 => ?_
  have K2 : Stays s.heap h2 := F2.keep
  have T2 := T.keeps K2
  refine wpAny_execs_cons (wpAny_If (wpAny_isTrue_Compare1 ?_))
  refine nmL F2 rfl ?_
  refine nmB T2 (by decide) b_ni ?_
  refine wpAny_is_plain rfl (wpAny_truthy_bool ?_)
  refine ifF (by simp) ?_
  refine wpAny_execs_nil ?_
  refine wpAny_execs_cons (wpAny_Return_some (wpAny_And2 ?_))
  refine nmL F2 rfl (wpAny_truthy_bool ?_)
  cases b1 with
  | false =>
    refine ifF (by decide) ?_
    have e : b = false := by
      cases b with
      | false => rfl
      | true => exact absurd (hb1.mpr (hb.mp rfl).1) (by decide)
    subst e
    exact ⟨rfl, _, _, rfl, K2⟩
  | true =>
    refine ifT rfl ?_
    refine wpAny_Compare1 ?_
    refine nmL F2 (by exact hself) ?_
    refine nmL F2 (by exact hother) ?_
    refine ne_two (b := b) R0.units (SetOf_keeps hs K2) (SetOf_keeps hs' K2) ?_ ⟨rfl, _, _, rfl, K2⟩
    have h1 := hb1.mp rfl
    cases b with
    | false =>
      simp only [true_iff]
      apply Classical.byContradiction
      intro hn
      exact absurd (hb.mpr ⟨h1, hn⟩) (by decide)
    | true =>
      simp only [Bool.true_eq_false, false_iff]
      exact (hb.mp rfl).2

set_option maxHeartbeats 4000000 in
theorem call_2_list (R : Rm A 1) (T : Wd mg mb s.heap) (ha : mg (defAt 2).name = some (.ref a)) (hs : s.heap.SetOf (intKind prog w) v S n) (hl : s.heap.IsList d items) :
    wpAny (model prog w) A (call (.ref a) [.ref v, .ref d]) (fun r s' => r = .notImplemented ∧ Keeps s s') E s := by
  refine callDef 2 (binds := [("self", .ref v), ("other", .ref d)]) T (by decide) ha R.room (fun _ _ _ => rfl) ?_ ?_
  · intro x hx
    simp only [List.mem_cons, List.not_mem_nil, or_false] at hx
    rcases hx with rfl | rfl <;> exact .inl rfl
  intro L cd h₁ tk hL F
  have hself : (bindL (envAt 2 L a cd).kindOf [("self", .ref v), ("other", .ref d)] fun _ => none) "self" = some (.ref v) := rfl
  have hother : (bindL (envAt 2 L a cd).kindOf [("self", .ref v), ("other", .ref d)] fun _ => none) "other" = some (.ref d) := rfl
  generalize (bindL (envAt 2 L a cd).kindOf [("self", .ref v), ("other", .ref d)] fun _ => none) = m at F hself hother
  generalize (bindC (envAt 2 L a cd).kindOf [("self", .ref v), ("other", .ref d)] fun _ => none) = cm at F
  have R0 : Rm (A.deeper (envAt 2 L a cd)) 0 := Rm.deeper R
  have T1 := T.keeps F.keep
  have hs1 := SetOf_keeps hs F.keep
  have hl1 := hl.at fun o e => F.keep _ o e
  refine wpAny_execs_cons (wpAny_Assign_Name ?_)
  refine methodCall_KW (pl := do return (← importBound _ _).getD true) ?_
  refine callT1 T1 b_type ?_
  refine nmL F hself ?_
  refine call_type_of (Tx := "set") (s := { s with heap := h₁, toks := tk }) hs1.typeIs (by decide) ?_
  refine attr_le F.fr ?_
  refine callWith_builtin rfl (evalArgs_plain (spliced_cons ?_))
  refine nmL F hself ?_
  refine spliced_cons ?_
  refine nmL F hother ?_
  refine spliced_nil ?_
  refine le_list hs1 hl1 ?_
  refine stL F fun h2 F2 S2 => ?_
  have K2 : Stays s.heap h2 := F2.keep
  have T2 := T.keeps K2
  refine wpAny_execs_cons (wpAny_If (wpAny_isTrue_Compare1 ?_))
  refine nmL F2 rfl ?_
  refine nmB T2 (by decide) b_ni ?_
  refine wpAny_is_plain rfl (wpAny_truthy_bool ?_)
  refine ifT rfl ?_
  refine wpAny_execs_cons (wpAny_Return_some ?_)
  refine nmL F2 rfl ?_
  exact ⟨rfl, _, _, rfl, K2⟩

set_option maxHeartbeats 4000000 in
theorem call_3_sets {b : Bool} (R : Rm A 1) (T : Wd mg mb s.heap) (ha : mg (defAt 3).name = some (.ref a)) (hs : s.heap.SetOf (intKind prog w) v S n) (hs' : s.heap.SetOf (intKind prog w) v' S' n')
    (hb : b = true ↔ ((n' < n ∧ ∀ k, S' k = true → S k = true) ∨ (n = n' ∧ ∀ k, S k = true → S' k = true))) :
    wpAny (model prog w) A (call (.ref a) [.ref v, .ref v']) (fun r s' => r = .bool b ∧ Keeps s s') E s := by
  refine callDef 3 (binds := [("self", .ref v), ("other", .ref v')]) T (by decide) ha R.room (fun _ _ _ => rfl) ?_ ?_
  · intro x hx
    simp only [List.mem_cons, List.not_mem_nil, or_false] at hx
    rcases hx with rfl | rfl <;> exact .inl rfl
  intro L cd h₁ tk hL F
  have hself : (bindL (envAt 3 L a cd).kindOf [("self", .ref v), ("other", .ref v')] fun _ => none) "self" = some (.ref v) := rfl
  have hother : (bindL (envAt 3 L a cd).kindOf [("self", .ref v), ("other", .ref v')] fun _ => none) "other" = some (.ref v') := rfl
  generalize (bindL (envAt 3 L a cd).kindOf [("self", .ref v), ("other", .ref v')] fun _ => none) = m at F hself hother
  generalize (bindC (envAt 3 L a cd).kindOf [("self", .ref v), ("other", .ref v')] fun _ => none) = cm at F
  have R0 : Rm (A.deeper (envAt 3 L a cd)) 0 := Rm.deeper R
  have T1 := T.keeps F.keep
  have hs1 := SetOf_keeps hs F.keep
  have hs2 := SetOf_keeps hs' F.keep
  refine wpAny_execs_cons (wpAny_Assign_Name ?_)
  refine methodCall_KW (pl := do return (← importBound _ _).getD true) ?_
  refine callT1 T1 b_type ?_
  refine nmL F hself ?_
  refine call_type_of (Tx := "set") (s := { s with heap := h₁, toks := tk }) hs1.typeIs (by decide) ?_
  refine attr_gt F.fr ?_
  refine callWith_builtin rfl (evalArgs_plain (spliced_cons ?_))
  refine nmL F hself ?_
  refine spliced_cons ?_
  refine nmL F hother ?_
  refine spliced_nil ?_
  obtain ⟨b1, hb1⟩ : ∃ b1 : Bool, b1 = true ↔ (n' < n ∧ ∀ k, S' k = true → S k = true) := by
    by_cases hc : n' < n ∧ ∀ k, S' k = true → S k = true
    · exact ⟨true, by simp only [true_iff]; exact hc⟩
    · exact ⟨false, by simp only [Bool.false_eq_true, false_iff]; exact hc⟩
  obtain ⟨b2, hb2⟩ : ∃ b2 : Bool, b2 = true ↔ (n = n' ∧ ∀ k, S k = true → S' k = true) := by
    by_cases hc : n = n' ∧ ∀ k, S k = true → S' k = true
    · exact ⟨true, by simp only [true_iff]; exact hc⟩
    · exact ⟨false, by simp only [Bool.false_eq_true, false_iff]; exact hc⟩
  refine gt_sets (b := b1) hs1 hs2 hb1 ?_
  refine stL F fun h2 F2 S2 => ?_
  have K2 : Stays s.heap h2 := F2.keep
  have T2 := T.keeps K2
  refine wpAny_execs_cons (wpAny_If (wpAny_isTrue_Compare1 ?_))
  refine nmL F2 rfl ?_
  refine nmB T2 (by decide) b_ni ?_
  refine wpAny_is_plain rfl (wpAny_truthy_bool ?_)
  refine ifF (by simp) ?_
  refine wpAny_execs_nil ?_
  refine wpAny_execs_cons (wpAny_Return_some (wpAny_Or2 ?_))
  refine nmL F2 rfl (wpAny_truthy_bool ?_)
  cases b1 with
  | true =>
    refine ifT rfl ?_
    have e : b = true := hb.mpr (.inl (hb1.mp rfl))
    subst e
    exact ⟨rfl, _, _, rfl, K2⟩
  | false =>
    refine ifF (by decide) ?_
    refine wpAny_Compare1 ?_
    refine nmL F2 (by exact hself) ?_
    refine nmL F2 (by exact hother) ?_
    refine eq_two (b := b) R0.units (SetOf_keeps hs K2) (SetOf_keeps hs' K2) ?_ ⟨rfl, _, _, rfl, K2⟩
    rw [hb]
    constructor
    · rintro (h | h)
      · exact absurd (hb1.mpr h) (by decide)
      · exact h
    · exact .inr

set_option maxHeartbeats 4000000 in
theorem call_3_list (R : Rm A 1) (T : Wd mg mb s.heap) (ha : mg (defAt 3).name = some (.ref a)) (hs : s.heap.SetOf (intKind prog w) v S n) (hl : s.heap.IsList d items) :
    wpAny (model prog w) A (call (.ref a) [.ref v, .ref d]) (fun r s' => r = .notImplemented ∧ Keeps s s') E s := by
  refine callDef 3 (binds := [("self", .ref v), ("other", .ref d)]) T (by decide) ha R.room (fun _ _ _ => rfl) ?_ ?_
  · intro x hx
    simp only [List.mem_cons, List.not_mem_nil, or_false] at hx
    rcases hx with rfl | rfl <;> exact .inl rfl
  intro L cd h₁ tk hL F
  have hself : (bindL (envAt 3 L a cd).kindOf [("self", .ref v), ("other", .ref d)] fun _ => none) "self" = some (.ref v) := rfl
  have hother : (bindL (envAt 3 L a cd).kindOf [("self", .ref v), ("other", .ref d)] fun _ => none) "other" = some (.ref d) := rfl
  generalize (bindL (envAt 3 L a cd).kindOf [("self", .ref v), ("other", .ref d)] fun _ => none) = m at F hself hother
  generalize (bindC (envAt 3 L a cd).kindOf [("self", .ref v), ("other", .ref d)] fun _ => none) = cm at F
  have R0 : Rm (A.deeper (envAt 3 L a cd)) 0 := Rm.deeper R
  have T1 := T.keeps F.keep
  have hs1 := SetOf_keeps hs F.keep
  have hl1 := hl.at fun o e => F.keep _ o e
  refine wpAny_execs_cons (wpAny_Assign_Name ?_)
  refine methodCall_KW (pl := do return (← importBound _ _).getD true) ?_
  refine callT1 T1 b_type ?_
  refine nmL F hself ?_
  refine call_type_of (Tx := "set") (s := { s with heap := h₁, toks := tk }) hs1.typeIs (by decide) ?_
  refine attr_gt F.fr ?_
  refine callWith_builtin rfl (evalArgs_plain (spliced_cons ?_))
  refine nmL F hself ?_
  refine spliced_cons ?_
  refine nmL F hother ?_
  refine spliced_nil ?_
  refine gt_list hs1 hl1 ?_
  refine stL F fun h2 F2 S2 => ?_
  have K2 : Stays s.heap h2 := F2.keep
  have T2 := T.keeps K2
  refine wpAny_execs_cons (wpAny_If (wpAny_isTrue_Compare1 ?_))
  refine nmL F2 rfl ?_
  refine nmB T2 (by decide) b_ni ?_
  refine wpAny_is_plain rfl (wpAny_truthy_bool ?_)
  refine ifT rfl ?_
  refine wpAny_execs_cons (wpAny_Return_some ?_)
  refine nmL F2 rfl ?_
  exact ⟨rfl, _, _, rfl, K2⟩

set_option maxHeartbeats 4000000 in
theorem call_4_sets {b : Bool} (R : Rm A 1) (T : Wd mg mb s.heap) (ha : mg (defAt 4).name = some (.ref a)) (hs : s.heap.SetOf (intKind prog w) v S n) (hs' : s.heap.SetOf (intKind prog w) v' S' n')
    (hb : b = true ↔ ((n' ≤ n ∧ ∀ k, S' k = true → S k = true) ∧ ¬ (n = n' ∧ ∀ k, S k = true → S' k = true))) :
    wpAny (model prog w) A (call (.ref a) [.ref v, .ref v']) (fun r s' => r = .bool b ∧ Keeps s s') E s := by
  refine callDef 4 (binds := [("self", .ref v), ("other", .ref v')]) T (by decide) ha R.room (fun _ _ _ => rfl) ?_ ?_
  · intro x hx
    simp only [List.mem_cons, List.not_mem_nil, or_false] at hx
    rcases hx with rfl | rfl <;> exact .inl rfl
  intro L cd h₁ tk hL F
  have hself : (bindL (envAt 4 L a cd).kindOf [("self", .ref v), ("other", .ref v')] fun _ => none) "self" = some (.ref v) := rfl
  have hother : (bindL (envAt 4 L a cd).kindOf [("self", .ref v), ("other", .ref v')] fun _ => none) "other" = some (.ref v') := rfl
  generalize (bindL (envAt 4 L a cd).kindOf [("self", .ref v), ("other", .ref v')] fun _ => none) = m at F hself hother
  generalize (bindC (envAt 4 L a cd).kindOf [("self", .ref v), ("other", .ref v')] fun _ => none) = cm at F
  have R0 : Rm (A.deeper (envAt 4 L a cd)) 0 := Rm.deeper R
  have T1 := T.keeps F.keep
  have hs1 := SetOf_keeps hs F.keep
  have hs2 := SetOf_keeps hs' F.keep
  refine wpAny_execs_cons (wpAny_Assign_Name ?_)
  refine methodCall_KW (pl := do return (← importBound _ _).getD true) ?_
  refine callT1 T1 b_type ?_
  refine nmL F hself ?_
  refine call_type_of (Tx := "set") (s := { s with heap := h₁, toks := tk }) hs1.typeIs (by decide) ?_
  refine attr_ge F.fr ?_
  refine callWith_builtin rfl (evalArgs_plain (spliced_cons ?_))
  refine nmL F hself ?_
  refine spliced_cons ?_
  refine nmL F hother ?_
  refine spliced_nil ?_
  obtain ⟨b1, hb1⟩ : ∃ b1 : Bool, b1 = true ↔ (n' ≤ n ∧ ∀ k, S' k = true → S k = true) := by
    by_cases hc : n' ≤ n ∧ ∀ k, S' k = true → S k = true
    · exact ⟨true, by simp only [true_iff]; exact hc⟩
    · exact ⟨false, by simp only [Bool.false_eq_true, false_iff]; exact hc⟩
  obtain ⟨b2, hb2⟩ : ∃ b2 : Bool, b2 = true ↔ (n = n' ∧ ∀ k, S k = true → S' k = true) := by
    by_cases hc : n = n' ∧ ∀ k, S k = true → S' k = true
    · exact ⟨true, by simp only [true_iff]; exact hc⟩
    · exact ⟨false, by simp only [Bool.false_eq_true, false_iff]; exact hc⟩
  refine ge_sets (b := b1) hs1 hs2 hb1 ?_
  refine stL F fun h2 F2 S2 => ?_
  have K2 : Stays s.heap h2 := F2.keep
  have T2 := T.keeps K2
  refine wpAny_execs_cons (wpAny_If (wpAny_isTrue_Compare1 ?_))
  refine nmL F2 rfl ?_
  refine nmB T2 (by decide) b_ni ?_
  refine wpAny_is_plain rfl (wpAny_truthy_bool ?_)
  refine ifF (by simp) ?_
  refine wpAny_execs_nil ?_
  refine wpAny_execs_cons (wpAny_Return_some (wpAny_And2 ?_))
  refine nmL F2 rfl (wpAny_truthy_bool ?_)
  cases b1 with
  | false =>
    refine ifF (by decide) ?_
    have e : b = false := by
      cases b with
      | false => rfl
      | true => exact absurd (hb1.mpr (hb.mp rfl).1) (by decide)
    subst e
    exact ⟨rfl, _, _, rfl, K2⟩
  | true =>
    refine ifT rfl ?_
    refine wpAny_Compare1 ?_
    refine nmL F2 (by exact hself) ?_
    refine nmL F2 (by exact hother) ?_
    refine ne_two (b := b) R0.units (SetOf_keeps hs K2) (SetOf_keeps hs' K2) ?_ ⟨rfl, _, _, rfl, K2⟩
    have h1 := hb1.mp rfl
    cases b with
    | false =>
      simp only [true_iff]
      apply Classical.byContradiction
      intro hn
      exact absurd (hb.mpr ⟨h1, hn⟩) (by decide)
    | true =>
      simp only [Bool.true_eq_false, false_iff]
      exact (hb.mp rfl).2

set_option maxHeartbeats 4000000 in
theorem call_4_list (R : Rm A 1) (T : Wd mg mb s.heap) (ha : mg (defAt 4).name = some (.ref a)) (hs : s.heap.SetOf (intKind prog w) v S n) (hl : s.heap.IsList d items) :
    wpAny (model prog w) A (call (.ref a) [.ref v, .ref d]) (fun r s' => r = .notImplemented ∧ Keeps s s') E s := by
  refine callDef 4 (binds := [("self", .ref v), ("other", .ref d)]) T (by decide) ha R.room (fun _ _ _ => rfl) ?_ ?_
  · intro x hx
    simp only [List.mem_cons, List.not_mem_nil, or_false] at hx
    rcases hx with rfl | rfl <;> exact .inl rfl
  intro L cd h₁ tk hL F
  have hself : (bindL (envAt 4 L a cd).kindOf [("self", .ref v), ("other", .ref d)] fun _ => none) "self" = some (.ref v) := rfl
  have hother : (bindL (envAt 4 L a cd).kindOf [("self", .ref v), ("other", .ref d)] fun _ => none) "other" = some (.ref d) := rfl
  generalize (bindL (envAt 4 L a cd).kindOf [("self", .ref v), ("other", .ref d)] fun _ => none) = m at F hself hother
  generalize (bindC (envAt 4 L a cd).kindOf [("self", .ref v), ("other", .ref d)] fun _ => none) = cm at F
  have R0 : Rm (A.deeper (envAt 4 L a cd)) 0 := Rm.deeper R
  have T1 := T.keeps F.keep
  have hs1 := SetOf_keeps hs F.keep
  have hl1 := hl.at fun o e => F.keep _ o e
  refine wpAny_execs_cons (wpAny_Assign_Name ?_)
  refine methodCall_KW (pl := do return (← importBound _ _).getD true) ?_
  refine callT1 T1 b_type ?_
  refine nmL F hself ?_
  refine call_type_of (Tx := "set") (s := { s with heap := h₁, toks := tk }) hs1.typeIs (by decide) ?_
  refine attr_ge F.fr ?_
  refine callWith_builtin rfl (evalArgs_plain (spliced_cons ?_))
  refine nmL F hself ?_
  refine spliced_cons ?_
  refine nmL F hother ?_
  refine spliced_nil ?_
  refine ge_list hs1 hl1 ?_
  refine stL F fun h2 F2 S2 => ?_
  have K2 : Stays s.heap h2 := F2.keep
  have T2 := T.keeps K2
  refine wpAny_execs_cons (wpAny_If (wpAny_isTrue_Compare1 ?_))
  refine nmL F2 rfl ?_
  refine nmB T2 (by decide) b_ni ?_
  refine wpAny_is_plain rfl (wpAny_truthy_bool ?_)
  refine ifT rfl ?_
  refine wpAny_execs_cons (wpAny_Return_some ?_)
  refine nmL F2 rfl ?_
  exact ⟨rfl, _, _, rfl, K2⟩
end
end Mine
end

section
open PySem PySem.W PyProof.Rows
namespace Mine
open PySem.Calls

theorem Keeps.stays {s s' : Shared} (k : Keeps s s') : Stays s.heap s'.heap := by obtain ⟨h', tk, rfl, k⟩ := k; exact k
theorem Keeps.refl (s : Shared) : Keeps s s := ⟨_, _, rfl, fun _ _ e => e⟩
theorem Keeps.trans' {s s' s'' : Shared} (k : Keeps s s') (k' : Keeps s' s'') : Keeps s s'' := by
  obtain ⟨h', tk, rfl, k⟩ := k
  obtain ⟨h'', tk', rfl, k'⟩ := k'
  exact ⟨h'', tk', rfl, fun b o e => k' b o (k b o e)⟩

section
variable {prog : Program} {w : World} {A : Around} {E : Value → Shared → Prop} {s : Shared} {v v' d a a1 a2 a3 a4 : Addr} {S S' : Int → Bool} {n n' : Nat} {items : Array Value} {mg mb : Str → Option Value}

/-- a new list that holds just these -/
def NewList (s : Shared) (vs : List Value) (r : Value) (s' : Shared) : Prop := ∃ D, r = .ref D ∧ s.heap.get? D = none ∧ s'.heap.IsList D vs.toArray ∧ Keeps s s'

set_option maxHeartbeats 4000000 in
theorem four_call {other : Addr} {r1 r2 r3 r4 : Value} (R : Rm A 2) (T : Wd mg mb s.heap) (ha : mg (defAt 13).name = some (.ref a))
    (h1 : mg (defAt 1).name = some (.ref a1)) (h2 : mg (defAt 2).name = some (.ref a2)) (h3 : mg (defAt 3).name = some (.ref a3)) (h4 : mg (defAt 4).name = some (.ref a4))
    (c1 : ∀ (A : Around) (s' : Shared) (E : Value → Shared → Prop), Rm A 1 → Stays s.heap s'.heap → wpAny (model prog w) A (call (.ref a1) [.ref v, .ref other]) (fun r s'' => r = r1 ∧ Keeps s' s'') E s')
    (c2 : ∀ (A : Around) (s' : Shared) (E : Value → Shared → Prop), Rm A 1 → Stays s.heap s'.heap → wpAny (model prog w) A (call (.ref a2) [.ref v, .ref other]) (fun r s'' => r = r2 ∧ Keeps s' s'') E s')
    (c3 : ∀ (A : Around) (s' : Shared) (E : Value → Shared → Prop), Rm A 1 → Stays s.heap s'.heap → wpAny (model prog w) A (call (.ref a3) [.ref v, .ref other]) (fun r s'' => r = r3 ∧ Keeps s' s'') E s')
    (c4 : ∀ (A : Around) (s' : Shared) (E : Value → Shared → Prop), Rm A 1 → Stays s.heap s'.heap → wpAny (model prog w) A (call (.ref a4) [.ref v, .ref other]) (fun r s'' => r = r4 ∧ Keeps s' s'') E s') :
    wpAny (model prog w) A (call (.ref a) [.ref v, .ref other]) (NewList s [r1, r2, r3, r4]) E s := by
  refine callDef 13 (binds := [("one", .ref v), ("other", .ref other)]) T (by decide) ha R.room (fun _ _ _ => rfl) ?_ ?_
  · intro x hx
    simp only [List.mem_cons, List.not_mem_nil, or_false] at hx
    rcases hx with rfl | rfl <;> exact .inl rfl
  intro L cd h₁ tk hL F
  have hone : (bindL (envAt 13 L a cd).kindOf [("one", .ref v), ("other", .ref other)] fun _ => none) "one" = some (.ref v) := rfl
  have hother : (bindL (envAt 13 L a cd).kindOf [("one", .ref v), ("other", .ref other)] fun _ => none) "other" = some (.ref other) := rfl
  generalize (bindL (envAt 13 L a cd).kindOf [("one", .ref v), ("other", .ref other)] fun _ => none) = m at F hone hother
  generalize (bindC (envAt 13 L a cd).kindOf [("one", .ref v), ("other", .ref other)] fun _ => none) = cm at F
  have R1 : Rm (A.deeper (envAt 13 L a cd)) 1 := Rm.deeper R
  have hE : ∀ (f : Flow) (s' : Shared), (∃ r, f = .ret r ∧ NewList s [r1, r2, r3, r4] r s') → NewList s [r1, r2, r3, r4] (match f with | .ret v => v | _ => .none) s' := by
    rintro f s' ⟨r, rfl, h⟩
    exact h
  refine wpAny_mono ?_ hE fun _ _ e => e
  clear hE
  refine wpAny_execs_cons (wpAny_Return_some ?_)
  refine wpAny_List (wpAny_items_cons ?_)
  refine callF2 1 (T.keeps F.keep) (by decide) h1 (nmL F hone (nmL F hother ⟨fun _ _ e => e, ?_⟩))
  refine wpAny_mono (c1 _ _ _ R1 F.keep) (fun r s1 hr => ?_) fun _ _ e => e
  obtain ⟨rfl, g1, k1, rfl, K1⟩ := hr
  have F1 := F.kept K1
  refine wpAny_items_cons ?_
  refine callF2 2 (T.keeps F1.keep) (by decide) h2 (nmL F1 hone (nmL F1 hother ⟨fun _ _ e => e, ?_⟩))
  refine wpAny_mono (c2 _ _ _ R1 F1.keep) (fun r s1 hr => ?_) fun _ _ e => e
  obtain ⟨rfl, g2, k2, rfl, K2⟩ := hr
  have F2 := F1.kept K2
  refine wpAny_items_cons ?_
  refine callF2 3 (T.keeps F2.keep) (by decide) h3 (nmL F2 hone (nmL F2 hother ⟨fun _ _ e => e, ?_⟩))
  refine wpAny_mono (c3 _ _ _ R1 F2.keep) (fun r s1 hr => ?_) fun _ _ e => e
  obtain ⟨rfl, g3, k3, rfl, K3⟩ := hr
  have F3 := F2.kept K3
  refine wpAny_items_cons ?_
  refine callF2 4 (T.keeps F3.keep) (by decide) h4 (nmL F3 hone (nmL F3 hother ⟨fun _ _ e => e, ?_⟩))
  refine wpAny_mono (c4 _ _ _ R1 F3.keep) (fun r s1 hr => ?_) fun _ _ e => e
  obtain ⟨rfl, g4, k4, rfl, K4⟩ := hr
  have F4 := F3.kept K4
  refine wpAny_items_nil ⟨by rw [sizeLine_eq]; simp, ?_⟩
  refine ⟨_, rfl, g4.objs.size, rfl, ?_, ⟨_, Heap.get?_push_size _ rfl, rfl, _, rfl⟩, _, _, rfl, fun b o e => Heap.get?_push_of_some _ (F4.keep b o e)⟩
  cases e : s.heap.get? g4.objs.size with
  | none => rfl
  | some o => exact absurd (Heap.lt_size (F4.keep _ _ e)) (Nat.lt_irrefl _)
end
end Mine
end

section
open PySem PySem.W PyProof.Rows
namespace Mine
open PySem.Calls Builtin Builtin.Str

/-- a word: its signs are a, b and marks -/
def Good (k : Nat) (x : Str) : Prop := x.length ≤ k ∧ ∀ c ∈ x.cps.toList, c = 97 ∨ c = 98 ∨ c = 35
theorem Good.mono {k j : Nat} {x : Str} (h : Good k x) (hkj : k ≤ j) : Good j x := ⟨Nat.le_trans h.1 hkj, h.2⟩
theorem Good.slice {k : Nat} {x : Str} (h : Good k x) (l u : Option Int) : Good k (Txt.slice x l u) :=
  ⟨Nat.le_trans (Txt.slice_le x l u) h.1, fun c hc => h.2 c (slice_mem x l u c hc)⟩
theorem Good.add {j k : Nat} {x y : Str} (h : Good j x) (h' : Good k y) : Good (j + k) (x ++ y) := by
  refine ⟨by rw [Str.length_append]; have := h.1; have := h'.1; omega, fun c hc => ?_⟩
  rw [Str.cps_append, Array.toList_append] at hc
  rcases List.mem_append.mp hc with hc | hc
  · exact h.2 c hc
  · exact h'.2 c hc
theorem good_mark : Good 1 (Str.ofString "#") := by unfold Good; decide
theorem good_empty : Good 0 (Str.ofString "") := by unfold Good; decide

section
variable {prog : Program} {w : World} {A : Around} {E : Value → Shared → Prop} {s : Shared} {a : Addr} {mg mb : Str → Option Value} {word : Str} {number : Int} {tw tn : Tok} {k : Nat}

def Gives1 (h₀ : Heap) (s : Shared) (k : Nat) (f : Flow) (s' : Shared) : Prop := ∃ x t, f = .ret (.str x t) ∧ Good k x ∧ ∃ h' tk, s' = { s with heap := h', toks := tk } ∧ Stays h₀ h'

set_option maxHeartbeats 4000000 in
theorem widened_end {h₀ : Heap} {L : Addr} {cd : Value} {m cm : Str → Option Value} {front back : Str} {tf tb : Tok} (F : Fm h₀ L m (envAt 9 L a cd).cells cm s.heap) (gf : Good k front) (gb : Good k back) (hk : k ≤ 1000)
    (hf : m "front" = some (.str front tf)) (hb : m "back" = some (.str back tb)) :
    wpAny (model prog w) A (execs ((defAt 9).body.drop 5) (envAt 9 L a cd)) (Gives1 h₀ s (2 * k + 1)) (fun _ _ => False) s := by
  have h1 := gf.1
  have h2 := gb.1
  refine wpAny_execs_cons (wpAny_Return_some (wpAny_BinOp (wpAny_BinOp (nmL F hf (wpAny_Constant_str ?_)))))
  refine SB.add (fun t1 k1 => ?_) (by rw [sizeLine_eq]; show front.length + 1 ≤ _; omega)
  refine nmL F hb ?_
  refine SB.add (fun t2 k2 => ?_) (by rw [sizeLine_eq, Str.length_append]; show front.length + 1 + back.length ≤ _; omega)
  exact ⟨_, _, rfl, ((gf.add good_mark).add gb).mono (by omega), _, _, rfl, F.keep⟩

set_option maxHeartbeats 4000000 in
theorem widened_back {h₀ : Heap} {L : Addr} {cd : Value} {m cm : Str → Option Value} {front back : Str} {tf tb : Tok} (F : Fm h₀ L m (envAt 9 L a cd).cells cm s.heap) (gf : Good k front) (gb : Good k back) (hk : k ≤ 1000)
    (hf : m "front" = some (.str front tf)) (hb : m "back" = some (.str back tb)) :
    wpAny (model prog w) A (execs ((defAt 9).body.drop 4) (envAt 9 L a cd)) (Gives1 h₀ s (2 * k + 1)) (fun _ _ => False) s := by
  have hfit : ∀ {x : Str}, Good k x → x.length ≤ sizeLine := fun h => by have := h.1; rw [sizeLine_eq]; omega
  refine wpAny_execs_cons (wpAny_If (wpAny_isTrue_Compare1 ?_))
  refine sliceS (nmL F hb ?_)
  refine evalPart_none_step (evalPart_some_step (wpAny_Constant_int ?_))
  refine ⟨back, tb, none, some (1, _), rfl, rfl, rfl, hfit gb, fun t1 k1 => ?_⟩
  refine wpAny_Constant_str (P.eq_str (wpAny_truthy_bool ?_))
  have F1 := F.push { cls := .type "slice", data := .fields #[.none, .int 1 s.toks, .none] }
  by_cases hc : ((Txt.slice back (Option.map (·.1) (none : Option (Int × Tok))) (Option.map (·.1) (some ((1 : Int), s.toks)))).cps.toList == (Str.ofString "#").cps.toList) = true
  · refine ifT hc ?_
    refine wpAny_execs_cons (wpAny_Assign_Name ?_)
    refine sliceS (nmL F1 hb ?_)
    refine evalPart_some_step (wpAny_Constant_int (evalPart_none_step ?_))
    refine ⟨back, tb, some (1, _), none, rfl, rfl, rfl, hfit gb, fun t2 k2 => ?_⟩
    refine stL (F1.push _) fun h2 F2 S2 => ?_
    refine wpAny_execs_nil (wpAny_mono (widened_end F2 gf (gb.slice _ _) hk (by exact hf) rfl) (fun f s' h => ?_) fun _ _ e => e)
    obtain ⟨x, t, e1, e2, h', tk, rfl, e3⟩ := h
    exact ⟨x, t, e1, e2, h', tk, rfl, e3⟩
  · refine ifF hc ?_
    refine wpAny_execs_nil (wpAny_mono (widened_end F1 gf gb hk (by exact hf) (by exact hb)) (fun f s' h => ?_) fun _ _ e => e)
    obtain ⟨x, t, e1, e2, h', tk, rfl, e3⟩ := h
    exact ⟨x, t, e1, e2, h', tk, rfl, e3⟩

set_option maxHeartbeats 4000000 in
theorem widened_front {h₀ : Heap} {L : Addr} {cd : Value} {m cm : Str → Option Value} {front back : Str} {tf tb : Tok} (F : Fm h₀ L m (envAt 9 L a cd).cells cm s.heap) (gf : Good k front) (gb : Good k back) (hk : k ≤ 1000)
    (hf : m "front" = some (.str front tf)) (hb : m "back" = some (.str back tb)) :
    wpAny (model prog w) A (execs ((defAt 9).body.drop 3) (envAt 9 L a cd)) (Gives1 h₀ s (2 * k + 1)) (fun _ _ => False) s := by
  have hfit : ∀ {x : Str}, Good k x → x.length ≤ sizeLine := fun h => by have := h.1; rw [sizeLine_eq]; omega
  refine wpAny_execs_cons (wpAny_If (wpAny_isTrue_Compare1 ?_))
  refine sliceS (nmL F hf ?_)
  refine evalPart_some_step (wpAny_UnaryOp (wpAny_Constant_int (neg_int (evalPart_none_step ?_))))
  refine ⟨front, tf, some (-1, _), none, rfl, rfl, rfl, hfit gf, fun t1 k1 => ?_⟩
  refine wpAny_Constant_str (P.eq_str (wpAny_truthy_bool ?_))
  have F1 := F.push { cls := .type "slice", data := .fields #[.int (-1) (s.toks + 1), .none, .none] }
  by_cases hc : ((Txt.slice front (Option.map (·.1) (some ((-1 : Int), s.toks + 1))) (Option.map (·.1) (none : Option (Int × Tok)))).cps.toList == (Str.ofString "#").cps.toList) = true
  · refine ifT hc ?_
    refine wpAny_execs_cons (wpAny_Assign_Name ?_)
    refine sliceS (nmL F1 hf ?_)
    refine evalPart_none_step (evalPart_some_step (wpAny_UnaryOp (wpAny_Constant_int (neg_int ?_))))
    refine ⟨front, tf, none, some (-1, _), rfl, rfl, rfl, hfit gf, fun t2 k2 => ?_⟩
    refine stL (F1.push _) fun h2 F2 S2 => ?_
    refine wpAny_execs_nil (wpAny_mono (widened_back F2 (gf.slice _ _) gb hk rfl (by exact hb)) (fun f s' h => ?_) fun _ _ e => e)
    obtain ⟨x, t, e1, e2, h', tk, rfl, e3⟩ := h
    exact ⟨x, t, e1, e2, h', tk, rfl, e3⟩
  · refine ifF hc ?_
    refine wpAny_execs_nil (wpAny_mono (widened_back F1 gf gb hk (by exact hf) (by exact hb)) (fun f s' h => ?_) fun _ _ e => e)
    obtain ⟨x, t, e1, e2, h', tk, rfl, e3⟩ := h
    exact ⟨x, t, e1, e2, h', tk, rfl, e3⟩

set_option maxHeartbeats 4000000 in
theorem widened_call (R : Rm A 1) (T : Wd mg mb s.heap) (ha : mg (defAt 9).name = some (.ref a)) (hg : Good k word) (hk : k ≤ 1000) :
    wpAny (model prog w) A (call (.ref a) [.str word tw, .int number tn]) (fun r s' => (∃ x t, r = .str x t ∧ Good (2 * k + 1) x) ∧ Keeps s s') E s := by
  refine callDef 9 (binds := [("word", .str word tw), ("number", .int number tn)]) T (by decide) ha R.room (fun _ _ _ => rfl) ?_ ?_
  · intro x hx
    simp only [List.mem_cons, List.not_mem_nil, or_false] at hx
    rcases hx with rfl | rfl <;> exact .inl rfl
  intro L cd h₁ tk hL F
  have hw : (bindL (envAt 9 L a cd).kindOf [("word", .str word tw), ("number", .int number tn)] fun _ => none) "word" = some (.str word tw) := rfl
  have hn : (bindL (envAt 9 L a cd).kindOf [("word", .str word tw), ("number", .int number tn)] fun _ => none) "number" = some (.int number tn) := rfl
  generalize (bindL (envAt 9 L a cd).kindOf [("word", .str word tw), ("number", .int number tn)] fun _ => none) = m at F hw hn
  generalize (bindC (envAt 9 L a cd).kindOf [("word", .str word tw), ("number", .int number tn)] fun _ => none) = cm at F
  have R0 : Rm (A.deeper (envAt 9 L a cd)) 0 := Rm.deeper R
  have hwl := hg.1
  have hfit : ∀ {x : Str}, Good k x → x.length ≤ sizeLine := fun h => by have := h.1; rw [sizeLine_eq]; omega
  have hE : ∀ (f : Flow) (s' : Shared), (∃ x t, f = .ret (.str x t) ∧ Good (2 * k + 1) x ∧ Keeps s s') → (∃ x t, (match f with | .ret v => v | _ => .none) = Value.str x t ∧ Good (2 * k + 1) x) ∧ Keeps s s' := by
    rintro f s' ⟨x, t, rfl, h, k⟩
    exact ⟨⟨x, t, rfl, h⟩, k⟩
  refine wpAny_mono ?_ hE fun _ _ e => e
  clear hE
  refine wpAny_execs_cons (wpAny_Assign_Name ?_)
  refine wpAny_BinOp (nmL F hn ?_)
  refine wpAny_BinOp (callB1 (T.keeps F.keep) b_len ?_)
  refine nmL F hw ?_
  refine P.len_str (by omega) ?_
  refine wpAny_Constant_int (add_int ?_)
  refine mod_int' (by omega) ?_
  generalize number.fmod ((word.length : Int) + 1) = place
  refine stL F fun h2 F2 S2 => ?_
  -- front
  refine wpAny_execs_cons (wpAny_Assign_Name ?_)
  refine sliceS (nmL F2 (by exact hw) ?_)
  refine evalPart_none_step ?_
  refine evalPart_some_step (nmL F2 rfl ?_)
  refine ⟨word, tw, none, some (place, _), rfl, rfl, rfl, hfit hg, fun t3 k3 => ?_⟩
  refine stL (F2.push _) fun h3 F3 S3 => ?_
  -- back
  refine wpAny_execs_cons (wpAny_Assign_Name ?_)
  refine sliceS (nmL F3 (by exact hw) ?_)
  refine evalPart_some_step (wpAny_BinOp (nmL F3 rfl ?_))
  refine wpAny_BinOp (wpAny_BinOp (nmL F3 (by exact hn) (wpAny_Constant_int (floordiv_int (by decide) ?_ (.inl (PyProof.noPylong_small (by decide)))))))
  refine wpAny_Constant_int ?_
  refine mod_int' (by decide) ?_
  refine add_int ?_
  refine evalPart_none_step ?_
  refine ⟨word, tw, some (place + (number.fdiv 8).fmod 3, _), none, rfl, rfl, rfl, hfit hg, fun t4 k4 => ?_⟩
  refine stL (F3.push _) fun h4 F4 S4 => ?_
  refine wpAny_mono (widened_front F4 (hg.slice _ _) (hg.slice _ _) hk rfl rfl) (fun f s' h => ?_) fun _ _ e => e
  obtain ⟨x, t, e1, e2, h', tk, rfl, e3⟩ := h
  exact ⟨x, t, e1, e2, h', tk, rfl, e3⟩
end
end Mine
end

section
open PySem PySem.W PyProof.Rows
namespace Mine
open PySem.Calls Builtin Builtin.Str

def wordsBody1 : List Stmt := match (defAt 10).body with | [_, .For _ _ b _ _, _, _, _] => b | _ => []
def wordsBody2 : List Stmt := match (defAt 10).body with | [_, _, _, .For _ _ b _ _, _] => b | _ => []

theorem sign_at (x : Int) : ∃ c, (seqIndex? (x.fmod 4) (Str.ofString "aab#").length).bind ((Str.ofString "aab#").cps[·]?) = some c ∧ (c = 97 ∨ c = 98 ∨ c = 35) := by
  have h1 : 0 ≤ x.fmod 4 := Int.fmod_nonneg_of_pos x (by decide)
  have h2 : x.fmod 4 < 4 := Int.fmod_lt_of_pos x (by decide)
  generalize x.fmod 4 = r at h1 h2
  have : r = 0 ∨ r = 1 ∨ r = 2 ∨ r = 3 := by omega
  rcases this with rfl | rfl | rfl | rfl
  · exact ⟨97, by decide, by decide⟩
  · exact ⟨97, by decide, by decide⟩
  · exact ⟨98, by decide, by decide⟩
  · exact ⟨35, by decide, by decide⟩

section
variable {prog : Program} {w : World} {A : Around} {E : Value → Shared → Prop} {s : Shared} {a : Addr} {mg mb : Str → Option Value} {k : Nat}

set_option maxHeartbeats 4000000 in
theorem words_turn1 {h₀ : Heap} {L : Addr} {cd : Value} {m cm : Str → Option Value} {first : Str} {tf tx : Tok} {x : Int} (F : Fm h₀ L m (envAt 10 L a cd).cells cm s.heap) (g : Good k first) (hk : k ≤ 1000)
    (hf : m "first" = some (.str first tf)) (hx : m "x" = some (.int x tx)) :
    wpAny (model prog w) A (execs wordsBody1 (envAt 10 L a cd)) (fun f s' => f = .next ∧ ∃ h' tk m' first' tf', s' = { s with heap := h', toks := tk } ∧ Fm h₀ L m' (envAt 10 L a cd).cells cm h' ∧
      (∀ b o, b ≠ L → s.heap.get? b = some o → h'.get? b = some o) ∧ m' "sums" = m "sums" ∧ m' "first" = some (.str first' tf') ∧ Good (k + 1) first') (fun _ _ => False) s := by
  have hfl := g.1
  refine wpAny_execs_cons (wpAny_Assign_Name (Subscript_ (wpAny_Constant_str ?_)))
  refine wpAny_BinOp (nmL F hx (wpAny_Constant_int ?_))
  refine mod_int' (by decide) ?_
  obtain ⟨c, hc, hcg⟩ := sign_at x
  have gs : Good 1 ⟨#[c]⟩ := by
    refine ⟨by simp [Str.length], fun c' hc' => ?_⟩
    have : c' = c := by simpa using hc'
    rw [this]; exact hcg
  have hr1 : 0 ≤ x.fmod 4 := Int.fmod_nonneg_of_pos x (by decide)
  have hr2 : x.fmod 4 < 4 := Int.fmod_lt_of_pos x (by decide)
  refine tail_any (ops := _) (typeIs_str _ _ _) PySem.F.slot_str_getitem.lookup (P.getItem_str (by simp; omega) hc ?_) (by with_unfolding_all rfl)
  refine stL F fun h2 F2 S2 => ?_
  refine wpAny_execs_cons (wpAny_If (wpAny_isTrue_Compare1 (wpAny_BinOp ?_)))
  refine sliceS (nmL F2 (by exact hf) ?_)
  refine evalPart_some_step (wpAny_UnaryOp (wpAny_Constant_int (neg_int (evalPart_none_step ?_))))
  refine ⟨first, tf, some (-1, _), none, rfl, rfl, rfl, by rw [sizeLine_eq]; omega, fun t1 k1 => ?_⟩
  have F3 := F2.push { cls := .type "slice", data := .fields #[.int (-1) (s.toks + 1 + 1 + 1 + 1 + 1 + 1), .none, .none] }
  refine nmL F3 rfl ?_
  have hsl := Txt.slice_le first (Option.map (·.1) (some ((-1 : Int), (0 : Tok)))) (Option.map (·.1) (none : Option (Int × Tok)))
  refine SB.add (fun t2 k2 => ?_) (by rw [sizeLine_eq]; show (Txt.slice first _ _).length + 1 ≤ _; exact Nat.le_trans (Nat.add_le_add_right (Txt.slice_le _ _ _) 1) (by omega))
  refine wpAny_Constant_str (P.ne_str (wpAny_truthy_bool ?_))
  have K2 : ∀ b o, b ≠ L → s.heap.get? b = some o → (h2.push { cls := .type "slice", data := .fields #[.int (-1) (s.toks + 1 + 1 + 1 + 1 + 1 + 1), .none, .none] }).get? b = some o := fun b o hb e => Heap.get?_push_of_some _ ((S2.2 b hb).trans e)
  refine split_bool (fun _ => ?_) (fun _ => ?_)
  · refine wpAny_execs_cons (wpAny_AugAssign_Name ?_)
    refine wpAny_loadName_local rfl rfl F3.ns (by exact hf) ?_
    refine nmL F3 rfl ?_
    refine SB.iadd (fun t3 k3 => ?_) (by rw [sizeLine_eq]; show first.length + 1 ≤ _; omega)
    refine stL F3 fun h4 F4 S4 => ?_
    refine wpAny_execs_nil (wpAny_execs_nil ?_)
    exact ⟨rfl, h4, _, _, _, _, rfl, F4, fun b o hb e => (S4.2 b hb).trans (K2 b o hb e), rfl, rfl, g.add gs⟩
  · refine wpAny_execs_nil (wpAny_execs_nil ?_)
    exact ⟨rfl, _, _, _, _, _, rfl, F3, K2, rfl, by exact hf, g.mono (by omega)⟩

set_option maxHeartbeats 4000000 in
theorem words_turn2 {h₀ : Heap} {L D aw : Addr} {cd : Value} {m cm : Str → Option Value} {l : List (Str × Tok)} {tx : Tok} {x : Int} (R : Rm A 1) (F : Fm h₀ L m (envAt 10 L a cd).cells cm s.heap) (T : Wd mg mb h₀) (hw : mg (defAt 9).name = some (.ref aw))
    (hD : s.heap.PlainList D (strValues l).toArray) (hLD : L < D) (hl0 : 0 < l.length) (hl1 : l.length ≤ 100) (g : ∀ y ∈ l, Good k y.1) (hk : k ≤ 1000)
    (hws : m "words" = some (.ref D)) (hx : m "x" = some (.int x tx)) :
    wpAny (model prog w) A (execs wordsBody2 (envAt 10 L a cd)) (fun f s' => f = .next ∧ ∃ h' tk y t, s' = { s with heap := h', toks := tk } ∧ Fm h₀ L m (envAt 10 L a cd).cells cm h' ∧
      (∀ b o, b ≠ D → s.heap.get? b = some o → h'.get? b = some o) ∧ h'.PlainList D (strValues (l ++ [(y, t)])).toArray ∧ Good (2 * k + 1) y) (fun _ _ => False) s := by
  have hsize : (strValues l).toArray.size = l.length := by simp [strValues]
  have T1 := T.keeps F.keep
  refine wpAny_execs_cons (wpAny_Expr_any ?_)
  refine wpAny_Call_append rfl rfl rfl rfl (nmL F hws ?_)
  refine ⟨D, _, rfl, (let ⟨n, ho⟩ := hD; ⟨_, n, ho, rfl, rfl, rfl⟩), ?_⟩
  refine callF2 9 T1 (by decide) hw ?_
  refine Subscript_ (nmL F hws ?_)
  refine wpAny_BinOp (wpAny_BinOp (nmL F hx (wpAny_Constant_int (floordiv_int (by decide) ?_ (.inl (PyProof.noPylong_small (by decide)))))))
  refine callB1 T1 b_len (nmL F hws ?_)
  refine call_len_list hD.isList (by rw [hsize]; omega) ?_
  rw [hsize]
  refine mod_int' (by omega) ?_
  have hr1 : 0 ≤ (x.fdiv 32).fmod (l.length : Int) := Int.fmod_nonneg_of_pos _ (by omega)
  have hr2 : (x.fdiv 32).fmod (l.length : Int) < l.length := Int.fmod_lt_of_pos _ (by omega)
  have hj : ((x.fdiv 32).fmod (l.length : Int)).toNat < l.length := by omega
  obtain ⟨y, hy⟩ : ∃ y, l[((x.fdiv 32).fmod (l.length : Int)).toNat]? = some y := ⟨_, List.getElem?_eq_getElem hj⟩
  refine itemL (v := .str y.1 y.2) hD.isList hr1 (by omega) (by simp [strValues, hy]) ?_
  refine nmL F hx ⟨fun _ _ e => e, ?_⟩
  refine wpAny_mono (widened_call R T1 hw (g y (List.mem_of_getElem? hy)) hk) (fun r s1 hr => ?_) fun _ _ e => e
  obtain ⟨⟨z, tz, rfl, gz⟩, g1, k1, rfl, K1⟩ := hr
  refine wpAny_list_append_plain (hD.at fun o e => K1 _ o e) (fun h2 hD2 S2 => ?_) (by rw [hsize, sizeLine_eq]; omega)
  refine wpAny_execs_nil ?_
  refine ⟨rfl, h2, _, z, tz, rfl, (F.kept K1).same S2 hLD (fun n c hc => nomatch hc), fun b o hb e => (S2.2 b hb).trans (K1 b o e), ?_, gz⟩
  have : (strValues l).toArray.push (.str z tz) = (strValues (l ++ [(z, tz)])).toArray := by simp [strValues]
  rw [← this]; exact hD2
end
end Mine
end

section
open PySem PySem.W PyProof.Rows
namespace Mine
open PySem.Calls Builtin Builtin.Str

section
variable {prog : Program} {w : World} {A : Around} {E : Value → Shared → Prop} {s : Shared} {env : Env} {Q : Value → Shared → Prop}

/-- a slice of a list, as a new list -/
theorem sliceL {value : Expr} {lower upper : Option Expr} {p pos : Pos}
    (h : wpAny (model prog w) A (eval value env) (fun o s₁ => wpAny (model prog w) A (evalPart lower env) (fun vl s₂ => wpAny (model prog w) A (evalPart upper env) (fun vu s₃ =>
      ∃ l items lo hi, o = .ref l ∧ s₃.heap.IsList l items ∧ items.size ≤ sizeLine ∧ IsPart vl lo ∧ IsPart vu hi ∧
        ∀ h' D, Stays s₃.heap h' → s₃.heap.objs.size ≤ D → h'.IsList D (slicePick items lo hi none) → Q (.ref D) { s₃ with heap := h' }) E s₂) E s₁) E s)
    (ht : ∀ o r, letTemporaryGo value o r = pure () := by intro _ _; rfl) :
    wpAny (model prog w) A (eval (.Subscript value (.Slice lower upper none p) pos) env) Q E s := by
  refine wpAny_Subscript_list_slice (wpAny_mono h (fun o s₁ h₁ => wpAny_mono h₁ (fun vl s₂ h₂ => wpAny_mono h₂ (fun vu s₃ h₃ => ?_) fun _ _ e => e) fun _ _ e => e) fun _ _ e => e) ht
  obtain ⟨l, items, lo, hi, rfl, hl, hsz, pl, pu, hQ⟩ := h₃
  refine ⟨l, items, lo, hi, rfl, hl, hsz, pl, pu, hQ _ _ (fun b o e => Heap.get?_push_of_some _ (Heap.get?_push_of_some _ e)) (Nat.le_succ _) ?_⟩
  refine ⟨{ cls := .type "list", data := .seq (slicePick items lo hi none) }, ?_, rfl, _, rfl⟩
  have := Heap.get?_push_size (h := s₃.heap.push { cls := .type "slice", data := .fields #[vl, vu, .none] }) (o := { cls := .type "list", data := .seq (slicePick items lo hi none) }) rfl
  rw [Heap.size_push] at this
  exact this

theorem iterL {D : Addr} {items : Array Value} (hl : s.heap.IsList D items)
    (hQ : ∀ h' I, Stays s.heap h' → s.heap.objs.size ≤ I → h'.IsListIter I D 0 → h'.IsList D items → Q (.ref I) { s with heap := h' }) :
    wpAny (model prog w) A (pyIter (.ref D)) Q E s :=
  wpAny_pyIter_list hl (hQ _ _ (fun _ _ e => Heap.get?_push_of_some _ e) (Nat.le_refl _) ⟨_, Heap.get?_push_size _ rfl, rfl, rfl⟩ (hl.push _))
end

theorem slice_5_8 {vs : List Value} {ns : List Int} (hi : IntsAre vs ns) (h9 : ns.length = 9) : IntsAre (slicePick vs.toArray (some 5) (some 8) none).toList ((ns.drop 5).take 3) :=
  slice_ints hi (x := 5) (y := 8) (by decide) (by decide) (by rw [h9]; decide)

section
variable {prog : Program} {w : World} {A : Around} {E : Value → Shared → Prop} {s : Shared} {a : Addr} {mg mb : Str → Option Value}

def FourWords (s : Shared) (r : Value) (s' : Shared) : Prop :=
  ∃ D l, r = .ref D ∧ s.heap.get? D = none ∧ s'.heap.IsList D (strValues l).toArray ∧ l.length = 4 ∧ (∀ y ∈ l, Good 100 y.1) ∧ Keeps s s'

set_option maxHeartbeats 4000000 in
theorem words_call {D0 aw : Addr} {vs : List Value} {ns : List Int} (R : Rm A 2) (T : Wd mg mb s.heap) (ha : mg (defAt 10).name = some (.ref a)) (hw : mg (defAt 9).name = some (.ref aw))
    (hl : s.heap.IsList D0 vs.toArray) (hi : IntsAre vs ns) (h9 : ns.length = 9) :
    wpAny (model prog w) A (call (.ref a) [.ref D0]) (FourWords s) E s := by
  refine callDef 10 (binds := [("sums", .ref D0)]) T (by decide) ha R.room (fun _ _ _ => rfl) ?_ ?_
  · intro x hx
    simp only [List.mem_cons, List.not_mem_nil, or_false] at hx
    rcases hx with rfl; exact .inl rfl
  intro L cd h₁ tk hL F
  have hsu : (bindL (envAt 10 L a cd).kindOf [("sums", .ref D0)] fun _ => none) "sums" = some (.ref D0) := rfl
  generalize (bindL (envAt 10 L a cd).kindOf [("sums", .ref D0)] fun _ => none) = m at F hsu
  generalize (bindC (envAt 10 L a cd).kindOf [("sums", .ref D0)] fun _ => none) = cm at F
  have R1 : Rm (A.deeper (envAt 10 L a cd)) 1 := Rm.deeper R
  have hE : ∀ (f : Flow) (s' : Shared), (∃ r, f = .ret r ∧ FourWords s r s') → FourWords s (match f with | .ret v => v | _ => .none) s' := by
    rintro f s' ⟨r, rfl, h⟩
    exact h
  refine wpAny_mono ?_ hE fun _ _ e => e
  clear hE
  refine wpAny_execs_cons (wpAny_Assign_Name (wpAny_Constant_str ?_))
  refine stL F fun h2 F2 S2 => ?_
  refine wpAny_execs_cons (wpAny_For ?_)
  have hv9 : vs.length = 9 := hi.length.trans h9
  refine sliceL (nmL F2 (by exact hsu) (evalPart_none_step (evalPart_some_step (wpAny_Constant_int ?_))))
  refine ⟨D0, vs.toArray, none, some 5, rfl, hl.at fun o e => F2.keep _ o e, by rw [List.size_toArray, hv9, sizeLine_eq]; omega, .none, .int _ _, fun h3 D3 K3 hD3 hl3 => ?_⟩
  refine iterL hl3 fun h4 I4 K4 hI4 hit4 hl4 => ?_
  have hi5 := slice_ints_uptoW hi (y := 5) (by decide)
  generalize slicePick vs.toArray none (some 5) none = sl at hl3 hl4 hi5
  have F4 := (F2.kept K3).kept K4
  have hLD3 : L < D3 := Nat.lt_of_lt_of_le F2.lt hD3
  have hD3I : D3 < I4 := by obtain ⟨_, e, _⟩ := hl3; exact Nat.lt_of_lt_of_le (Heap.lt_size e) hI4
  have hsl : sl.size = 5 := by
    have := hi5.length
    rw [List.length_take, h9] at this
    simpa using this
  refine forWalk (Walks.list R1.h I4 D3 (Nat.ne_of_lt hD3I) sl)
    (fun i s' => ∃ h' tk' m' first tf, s' = { s with heap := h', toks := tk' } ∧ Fm s.heap L m' (envAt 10 L a cd).cells cm h' ∧ h'.IsListIter I4 D3 i ∧ h'.IsList D3 sl ∧
      m' "sums" = some (.ref D0) ∧ m' "first" = some (.str first tf) ∧ Good i first) ?_ ?_ ?_ ?_
  · exact ⟨_, _, _, _, _, rfl, F4, hit4, hl4, by exact hsu, rfl, good_empty⟩
  · rintro i s' ⟨h', tk', m', first, tf, rfl, _, h1, h2, _⟩
    exact ⟨h1, h2⟩
  · rintro i v s' h'' tk'' hin ⟨h', tk', m', first, tf, rfl, F', hit, hl', hs', hf', g⟩ hP hst hk
    have F'' : Fm s.heap L m' (envAt 10 L a cd).cells cm h'' := F'.ext (a := I4) (fun b o hb e => hk b o (by simpa using hb) e) (Nat.lt_trans hLD3 hD3I) (fun n c hc => nomatch hc)
    obtain ⟨n, t, rfl, _⟩ := hi5.at i v (by simpa using hP)
    refine stL F'' fun h5 F5 S5 => ?_
    refine wpAny_mono (words_turn1 F5 g (by omega) (by exact hf') rfl) (fun f s' h => ?_) fun _ _ e => e
    obtain ⟨rfl, h6, tk6, m6, first6, tf6, rfl, F6, K6, hs6, hf6, g6⟩ := h
    refine ⟨h6, tk6, m6, first6, tf6, rfl, F6, ?_, ?_, ?_, hf6, g6⟩
    · exact ((hst.1.extBut S5.extBut (Nat.ne_of_gt (Nat.lt_trans hLD3 hD3I))).extBut (b := L) (fun b o hb e => K6 b o hb e) (Nat.ne_of_gt (Nat.lt_trans hLD3 hD3I)))
    · exact ((hst.2.extBut S5.extBut (Nat.ne_of_gt hLD3)).extBut (b := L) (fun b o hb e => K6 b o hb e) (Nat.ne_of_gt hLD3))
    · rw [hs6]; exact hs'
  · rintro s' h'' tk'' ⟨h', tk', m', first, tf, rfl, F', hit, hl', hs', hf', g⟩ hk
    have F'' : Fm s.heap L m' (envAt 10 L a cd).cells cm h'' := F'.ext (a := I4) (fun b o hb e => hk b o (by simpa using hb) e) (Nat.lt_trans hLD3 hD3I) (fun n c hc => nomatch hc)
    rw [hsl] at g
    clear hit hl' hk F' hi5 hsl hl3 hl4 hit4
    -- words
    refine wpAny_execs_cons (wpAny_Assign_Name ?_)
    refine wpAny_List (wpAny_items_cons (nmL F'' hf' (wpAny_items_nil ⟨by rw [sizeLine_eq]; simp, ?_⟩)))
    refine stL (F''.push _) fun h5 F5 S5 => ?_
    have hLD : L < h''.objs.size := F''.lt
    have hD5 : h5.PlainList h''.objs.size (strValues [(first, tf)]).toArray := PlainList.sameBut (b := L) ⟨_, Heap.get?_push_size _ rfl⟩ S5 (Nat.ne_of_gt hLD)
    have hDlt : h''.objs.size < h5.objs.size := by obtain ⟨_, e⟩ := hD5; exact Heap.lt_size e
    have hs5 : s.heap.get? h''.objs.size = none := by
      cases e : s.heap.get? h''.objs.size with
      | none => rfl
      | some o => exact absurd (Heap.lt_size (F''.keep _ _ e)) (Nat.lt_irrefl _)
    generalize h''.objs.size = D at F5 hLD hD5 hDlt hs5
    refine wpAny_execs_cons (wpAny_For ?_)
    refine sliceL (nmL F5 (by exact hs') (evalPart_some_step (wpAny_Constant_int (evalPart_some_step (wpAny_Constant_int ?_)))))
    refine ⟨D0, vs.toArray, some 5, some 8, rfl, hl.at fun o e => F5.keep _ o e, by rw [List.size_toArray, hv9, sizeLine_eq]; omega, .int _ _, .int _ _, fun h6 D6 K6 hD6 hl6 => ?_⟩
    refine iterL hl6 fun h7 I7 K7 hI7 hit7 hl7 => ?_
    have hi8 := slice_5_8 hi h9
    generalize slicePick vs.toArray (some 5) (some 8) none = sl2 at hl6 hl7 hi8
    have F7 := (F5.kept K6).kept K7
    have hDD6 : D < D6 := Nat.lt_of_lt_of_le hDlt hD6
    have hD6I : D6 < I7 := by obtain ⟨_, e, _⟩ := hl6; exact Nat.lt_of_lt_of_le (Heap.lt_size e) hI7
    have hsl : sl2.size = 3 := by
      have := hi8.length
      rw [List.length_take, List.length_drop, h9] at this
      simpa using this
    refine forWalk (Walks.list R1.h I7 D6 (Nat.ne_of_lt hD6I) sl2)
      (fun i s' => ∃ h' tk' m' l, s' = { s with heap := h', toks := tk' } ∧ Fm s.heap L m' (envAt 10 L a cd).cells cm h' ∧ h'.IsListIter I7 D6 i ∧ h'.IsList D6 sl2 ∧
        m' "words" = some (.ref D) ∧ h'.PlainList D (strValues l).toArray ∧ l.length = i + 1 ∧ (∀ y ∈ l, Good (6 * 2 ^ i - 1) y.1)) ?_ ?_ ?_ ?_
    · refine ⟨_, _, _, [(first, tf)], rfl, F7, hit7, hl7, rfl, hD5.at fun o e => K7 _ o (K6 _ o e), rfl, fun y hy => ?_⟩
      have : y = (first, tf) := by simpa using hy
      rw [this]; exact g
    · rintro i s' ⟨h', tk', m', l, rfl, _, h1, h2, _⟩
      exact ⟨h1, h2⟩
    · rintro i v s' h8 tk8 hin ⟨h', tk', m', l, rfl, F', hit, hl', hw', hD', hll, g'⟩ hP hst hk
      rw [hsl] at hin
      have hLI : L < I7 := Nat.lt_trans hLD (Nat.lt_trans hDD6 hD6I)
      have hk' : ∀ b o, b ≠ I7 → h'.get? b = some o → h8.get? b = some o := fun b o hb e => hk b o (by simpa using hb) e
      have F8 : Fm s.heap L m' (envAt 10 L a cd).cells cm h8 := F'.ext (a := I7) hk' hLI (fun n c hc => nomatch hc)
      obtain ⟨n, t, rfl, _⟩ := hi8.at i v (by simpa using hP)
      refine stL F8 fun h9' F9 S9 => ?_
      have hD9 : h9'.PlainList D (strValues l).toArray := PlainList.sameBut (hD'.at fun o e => hk' D o (Nat.ne_of_lt (Nat.lt_trans hDD6 hD6I)) e) S9 (Nat.ne_of_gt hLD)
      have hpow : 6 * 2 ^ i - 1 ≤ 1000 ∧ 2 * (6 * 2 ^ i - 1) + 1 = 6 * 2 ^ (i + 1) - 1 ∧ 6 * 2 ^ i - 1 ≤ 6 * 2 ^ (i + 1) - 1 := by
        have : i = 0 ∨ i = 1 ∨ i = 2 := by omega
        rcases this with rfl | rfl | rfl <;> decide
      refine wpAny_mono (words_turn2 R1 F9 T hw hD9 hLD (by omega) (by omega) g' hpow.1 (by exact hw') rfl) (fun f s' h => ?_) fun _ _ e => e
      obtain ⟨rfl, h10, tk10, y, ty, rfl, F10, K10, hD10, gy⟩ := h
      refine ⟨h10, tk10, _, l ++ [(y, ty)], rfl, F10, ?_, ?_, by exact hw', hD10, by simp [hll], fun z hz => ?_⟩
      · exact ((hst.1.extBut S9.extBut (Nat.ne_of_gt hLI)).extBut (b := D) (fun b o hb e => K10 b o hb e) (Nat.ne_of_gt (Nat.lt_trans hDD6 hD6I)))
      · exact ((hst.2.extBut S9.extBut (Nat.ne_of_gt (Nat.lt_trans hLD hDD6))).extBut (b := D) (fun b o hb e => K10 b o hb e) (Nat.ne_of_gt hDD6))
      · rcases List.mem_append.mp hz with hz | hz
        · exact (g' z hz).mono hpow.2.2
        · have : z = (y, ty) := by simpa using hz
          rw [this]; exact gy.mono (Nat.le_of_eq hpow.2.1)
    · rintro s' h8 tk8 ⟨h', tk', m', l, rfl, F', hit, hl', hw', hD', hll, g'⟩ hk
      rw [hsl] at hll g'
      have hLI : L < I7 := Nat.lt_trans hLD (Nat.lt_trans hDD6 hD6I)
      have hk' : ∀ b o, b ≠ I7 → h'.get? b = some o → h8.get? b = some o := fun b o hb e => hk b o (by simpa using hb) e
      have F8 : Fm s.heap L m' (envAt 10 L a cd).cells cm h8 := F'.ext (a := I7) hk' hLI (fun n c hc => nomatch hc)
      refine wpAny_execs_cons (wpAny_Return_some (nmL F8 hw' ?_))
      refine ⟨_, rfl, D, l, rfl, hs5, (hD'.at fun o e => hk' D o (Nat.ne_of_lt (Nat.lt_trans hDD6 hD6I)) e).isList, hll, fun y hy => (g' y hy).mono (by decide), _, _, rfl, F8.keep⟩
end
end Mine
end

section
open PySem PySem.W PyProof.Rows
namespace Mine
open PySem.Calls Builtin

theorem get_none_of_le {h : Heap} {a : Addr} (ha : h.objs.size ≤ a) : h.get? a = none := by
  cases e : h.get? a with
  | none => rfl
  | some o => exact absurd (Heap.lt_size e) (Nat.not_lt.mpr ha)

section
variable {prog : Program} {w : World} {A : Around} {E : Value → Shared → Prop} {s : Shared} {env : Env}

/-- a new block around a comprehension whose own name is captured -/
theorem newEnv_cell {scope : Scope} {cl : List (Str × Addr)} {x : Str} {Q : Env → Shared → Prop}
    (hcells : ∀ (n : Nat) (acc : List (Str × Addr)), cellsFrom n scope.names acc = (x, n) :: acc) (hpush : ∀ h : Heap, pushCells h scope.names = h.push { cls := .type "cell", data := .cell none })
    (h : ∀ h' C X, Stays s.heap h' → s.heap.objs.size ≤ C → s.heap.objs.size ≤ X → C ≠ X → h'.Ns C (fun _ => none) → h'.IsCell X none →
      Q { scope := scope, locals := C, globals := env.globals, cells := (x, X) :: cl, qual := env.qual, func := none, code := env.code, frame := env.frame, builtins := env.builtins } { s with heap := h' }) :
    wpAny (model prog w) A (newFunctionEnv scope env.globals cl [] env.qual none .none (some env)) Q E s := by
  unfold newFunctionEnv
  simp only [Option.isSome_some, if_true]
  refine wpAny_bind (wpAny_alloc ?_)
  refine wpAny_bind (wpAny_layCells _ (fun name kind cells => by cases hkc : kind == NameKind.cell <;> simp) _ _ _ _ ?_)
  rw [hcells, hpush]
  refine wpAny_bind ?_
  rw [List.forIn_nil]
  refine wpAny_pure (wpAny_pure ?_)
  refine h _ _ _ (fun b o e => Heap.get?_push_of_some _ (Heap.get?_push_of_some _ e)) (Nat.le_refl _) (by rw [show ({ s with heap := s.heap.push { cls := .type "dict", data := .dict #[] } } : Shared).heap.objs.size = s.heap.objs.size + 1 from Heap.size_push ..]; exact Nat.le_succ _) ?_ ?_ ?_
  · rw [show ({ s with heap := s.heap.push { cls := .type "dict", data := .dict #[] } } : Shared).heap.objs.size = s.heap.objs.size + 1 from Heap.size_push ..]
    exact Nat.ne_of_lt (Nat.lt_succ_self _)
  · exact (Heap.Ns.new s.heap (.type "dict")).push _
  · exact ⟨_, Heap.get?_push_size _ rfl, rfl⟩

/-- the block in which such a comprehension's element runs -/
abbrev cellEnv (scope : Scope) (x : Str) (X : Addr) (cl : List (Str × Addr)) (C : Addr) (env : Env) : Env := compEnvC scope ((x, X) :: cl) C env

set_option maxHeartbeats 2000000 in
/-- y = [elt for x in a list], where elt captures x and makes an object each time -/
theorem assign_comp_cell {h₀ : Heap} {m cm : Str → Option Value} {elt iter : Expr} {x y : Str} {px py pos spos : Pos} {scope : Scope} {cl : List (Str × Addr)} {Dl : Addr} {items : Array Value} {Q : Flow → Shared → Prop} (G : Nat → Obj → Prop)
    (R : A.handled = none) (F : Fm h₀ env.locals m env.cells cm s.heap) (hcs : ∀ n c, (n, c) ∈ env.cells → env.cells.lookup n = some c)
    (hsw : swapsWith (.ListComp elt [⟨.Name x px, iter, [], 0⟩] scope pos) (some (.Name y py)) spos.line env = pure true)
    (hclos : closureFor scope env = pure cl) (hkind : scope.kind = .function) (hek : env.scope.kind = .function)
    (hnames : ∀ z ∈ scope.names, z.2 = .local → scope.names.lookup z.1 = some .local)
    (hcells : ∀ (n : Nat) (acc : List (Str × Addr)), cellsFrom n scope.names acc = (x, n) :: acc) (hpush : ∀ h : Heap, pushCells h scope.names = h.push { cls := .type "cell", data := .cell none })
    (hxk : ∀ X C, (cellEnv scope x X cl C env).kindOf x = some .cell) (hy : env.kindOf y = some .local)
    (hiter : ∀ Q' (E : Value → Shared → Prop), Q' (.ref Dl) s → wpAny (model prog w) A (eval iter env) Q' E s) (hl : s.heap.IsList Dl items) (hsz : items.size ≤ sizeLine)
    (helt : ∀ i v C X (s₃ : Shared), items[i]? = some v → (∀ b o, s.heap.get? b = some o → s₃.heap.get? b = some o) → s₃.heap.IsCell X (some v) → s.toks ≤ s₃.toks →
      wpAny (model prog w) A (eval elt (cellEnv scope x X cl C env)) (fun r s₄ => (∃ t o, r = .ref t ∧ s₃.heap.get? t = none ∧ s₄.heap.get? t = some o ∧ G i o) ∧ Keeps s₃ s₄) (fun _ _ => False) s₃)
    (hQ : ∀ D h' tk ys, s.heap.get? D = none → h'.IsList D ys → ys.size = items.size → (∀ i r, ys[i]? = some r → ∃ t o, r = .ref t ∧ s.heap.get? t = none ∧ h'.get? t = some o ∧ G i o) →
      Fm h₀ env.locals (fun z => if z = y then some (.ref D) else m z) env.cells cm h' → (∀ b o, b ≠ env.locals → s.heap.get? b = some o → h'.get? b = some o) → Q .next { s with heap := h', toks := tk })
    (hs : ∀ z, foldedSetIterable iter env z = pure z := by intro _; rfl) :
    wpAny (model prog w) A (exec (.Assign [.Name y py] (.ListComp elt [⟨.Name x px, iter, [], 0⟩] scope pos) spos) env) Q (fun _ _ => False) s := by
  rw [exec_Assign_Name_used _ _ _ _ hsw]
  refine wpAny_bind (wpAny_standAt (wpAny_bind ?_))
  show wpAny _ A (do let _ ← comprehension (.ListComp elt [⟨.Name x px, iter, [], 0⟩] scope pos) scope env _ (newList []) false (eval iter env) (some (assign (.Name y py) env))) _ _ s
  refine wpAny_bind (wpAny_mono (wpAny_comprehension_free (use := some (assign (.Name y py) env)) (Q := fun _ s' => Q .next s') rfl hs hclos hkind hnames (hiter _ _ ?_)) (fun _ s' hq => wpAny_pure (wpAny_pure hq)) fun _ _ e => e)
  have hDl : Dl < s.heap.objs.size := by obtain ⟨_, e, _⟩ := hl; exact Heap.lt_size e
  refine iterL hl fun h1 I K1 hI1 hit1 hl1 => ?_
  refine wpAny_newObj_type ?_
  have hIlt : I < h1.objs.size := by obtain ⟨_, e, _⟩ := hit1; exact Heap.lt_size e
  refine newEnv_cell hcells hpush fun h2 C X K2 hC hX hCX hn2 hc2 => ?_
  have hpl2 : h2.PlainList h1.objs.size #[] := ⟨_, K2 _ _ (Heap.get?_push_size _ rfl)⟩
  have K12 : Stays h1 h2 := fun b o e => K2 b o (Heap.get?_push_of_some _ e)
  have hsD : (h1.push { cls := .type "list", data := .seq ([] : List Value).toArray }).objs.size = h1.objs.size + 1 := Heap.size_push ..
  have hC' : h1.objs.size + 1 ≤ C := by rw [← hsD]; exact hC
  have hX' : h1.objs.size + 1 ≤ X := by rw [← hsD]; exact hX
  have hDC : h1.objs.size ≠ C := Nat.ne_of_lt hC'
  have hDX : h1.objs.size ≠ X := Nat.ne_of_lt hX'
  have hIC : I ≠ C := Nat.ne_of_lt (Nat.lt_trans hIlt hC')
  have hIX : I ≠ X := Nat.ne_of_lt (Nat.lt_trans hIlt hX')
  have hID : I ≠ h1.objs.size := Nat.ne_of_lt hIlt
  have hDlI : Dl ≠ I := Nat.ne_of_lt (Nat.lt_of_lt_of_le hDl hI1)
  have hsI : s.heap.objs.size ≤ h1.objs.size := Nat.le_of_lt (Nat.lt_of_le_of_lt hI1 hIlt)
  have old : ∀ b o, s.heap.get? b = some o → b ≠ I ∧ b ≠ h1.objs.size ∧ b ≠ C ∧ b ≠ X := fun b o e => by
    have hb := Heap.lt_size e
    exact ⟨Nat.ne_of_lt (Nat.lt_of_lt_of_le hb hI1), Nat.ne_of_lt (Nat.lt_of_lt_of_le hb hsI), Nat.ne_of_lt (Nat.lt_of_lt_of_le hb (Nat.le_trans hsI (Nat.le_of_lt hC'))), Nat.ne_of_lt (Nat.lt_of_lt_of_le hb (Nat.le_trans hsI (Nat.le_of_lt hX')))⟩
  have loop : ∀ s₃ : Shared, s₃ = { s with heap := h2 } →
      codeAny (model prog w) A (.compLoop (.ListComp elt [⟨.Name x px, iter, [], 0⟩] scope pos) 0 (.ref I) (.ref h1.objs.size) (cellEnv scope x X cl C env))
        (compPost (model prog w) A (fun _ _ => False) (some (assign (.Name y py) env)) (fun _ s' => Q .next s') (.ref h1.objs.size) C) s₃ := by
    rintro s₃ rfl
    refine codeAny_compLoop_tests (fun k s' => ∃ i h' tk ys, s' = { s with heap := h', toks := tk } ∧ i ≤ items.size ∧ k = items.size - i ∧ h'.IsListIter I Dl i ∧ h'.PlainList h1.objs.size ys ∧ ys.size = i ∧
        (∃ mC, h'.Ns C mC) ∧ (∃ v, h'.IsCell X v) ∧ (∀ b o, s.heap.get? b = some o → h'.get? b = some o) ∧ s.toks ≤ tk ∧
        (∀ j r, ys[j]? = some r → ∃ t o, r = .ref t ∧ s.heap.get? t = none ∧ t ≠ I ∧ t ≠ h1.objs.size ∧ t ≠ C ∧ t ≠ X ∧ h'.get? t = some o ∧ G j o)) ?_ items.size
      ⟨0, h2, s.toks, #[], rfl, Nat.zero_le _, rfl, hit1.at fun o e => K12 _ o e, hpl2, rfl, ⟨_, hn2⟩, ⟨_, hc2⟩, fun b o e => K12 b o (K1 b o e), Nat.le_refl _, fun j r hj => by simp at hj⟩
    rintro k s' ⟨i, h', tk, ys, rfl, hi, rfl, hit, hpl, hys, ⟨mC, hn⟩, ⟨v0, hc⟩, hk, htk, hG⟩
    by_cases hlt : i < items.size
    · refine wpAny_pyNext_list_item hit (hl.at fun o e => hk _ o e) (x := items[i]) (by simp [hlt]) fun h3 hit3 S3 => ?_
      refine wpAny_assign_Name (wpAny_storeName_cell (c := X) (v₀ := v0) hkind (hxk X C) (by simp [cellEnv, compEnvC]) (hc.sameBut S3 (Ne.symm hIX)) fun h4 hc4 S4 => ?_)
      refine wpAny_tests_nil ?_
      rw [if_pos rfl]
      have k4 : ∀ b o, b ≠ I → b ≠ X → h'.get? b = some o → h4.get? b = some o := fun b o hb hb' e => (S4.2 b hb').trans ((S3.2 b hb).trans e)
      refine wpAny_mono (wpAny_toks_of (n := s.toks) htk (helt i items[i] C X _ (by simp [hlt]) (fun b o e => k4 b o (old b o e).1 (old b o e).2.2.2 (hk b o e)) hc4 htk)) (fun r s₄ hr => ?_) fun _ _ f => f.2.elim
      obtain ⟨htk5, ⟨t, o, rfl, ht0, ht1, hg⟩, h5, tk5, rfl, K5⟩ := hr
      have hpl5 : h5.PlainList h1.objs.size ys := hpl.at fun o e => K5 _ o (k4 _ o (Ne.symm hID) hDX e)
      have htI : t ≠ I := by obtain ⟨_, e, _⟩ := hit3; exact ne_of_none_some ht0 ((S4.2 I hIX).trans e)
      have htD : t ≠ h1.objs.size := by obtain ⟨_, e⟩ := hpl; exact ne_of_none_some ht0 (k4 _ _ (Ne.symm hID) hDX e)
      have htC : t ≠ C := by obtain ⟨_, _, _, e, _⟩ := hn; exact ne_of_none_some ht0 (k4 _ _ (Ne.symm hIC) hCX e)
      have htX : t ≠ X := by obtain ⟨_, e, _⟩ := hc4; exact ne_of_none_some ht0 e
      have hts : s.heap.get? t = none := by
        cases e : s.heap.get? t with
        | none => rfl
        | some o' => exact absurd rfl (ne_of_none_some ht0 (k4 t o' htI htX (hk t o' e)))
      refine wpAny_list_append_plain hpl5 (fun h6 hpl6 S6 => ?_) (by omega)
      refine ⟨items.size - (i + 1), by omega, i + 1, h6, tk5, ys.push (.ref t), rfl, hlt, rfl, ?_, hpl6, by rw [Array.size_push, hys], ?_, ?_, ?_, htk5, ?_⟩
      · exact ((hit3.extBut S4.extBut hIX).at fun o e => K5 _ o e).extBut S6.extBut hID
      · exact ⟨mC, (((hn.sameBut S3 (Ne.symm hIC)).sameBut S4 hCX).keeps K5).sameBut S6 (Ne.symm hDC)⟩
      · exact ⟨_, (hc4.keeps K5).sameBut S6 (Ne.symm hDX)⟩
      · exact fun b o e => (S6.2 b (old b o e).2.1).trans (K5 b o (k4 b o (old b o e).1 (old b o e).2.2.2 (hk b o e)))
      · intro j r hj
        rw [Array.getElem?_push] at hj
        split at hj
        · rename_i hj'
          obtain rfl := Option.some.inj hj
          refine ⟨t, o, rfl, hts, htI, htD, htC, htX, (S6.2 t htD).trans ht1, ?_⟩
          rw [hj', hys]; exact hg
        · obtain ⟨t', o', rfl, e1, e2, e3, e4, e5, e6, e7⟩ := hG j r hj
          exact ⟨t', o', rfl, e1, e2, e3, e4, e5, (S6.2 t' e3).trans (K5 _ _ (k4 _ _ e2 e5 e6)), e7⟩
    · have hin : i = items.size := by omega
      refine wpAny_pyNext_list_end R hit (hl.at fun o e => hk _ o e) (by simp [hin]) fun h3 E3 => ?_
      show wpAny _ A (assign (.Name y py) env (.ref h1.objs.size)) _ _ _
      have k3 : ∀ b o, b ≠ I → h'.get? b = some o → h3.get? b = some o := fun b o hb e => E3 b o hb e
      have F3 : Fm h₀ env.locals m env.cells cm h3 := F.kept fun b o e => k3 b o (old b o e).1 (hk b o e)
      have hLs : ∀ {b : Addr}, s.heap.get? b = none → b ≠ env.locals := fun hb => by obtain ⟨_, _, _, e, _⟩ := F.ns; exact ne_of_none_some hb e
      refine wpAny_assign_Name (stL F3 (fun h4 F4 S4 => ?_) hek hy)
      have hLC : C ≠ env.locals := hLs (get_none_of_le (Nat.le_trans hsI (Nat.le_of_lt hC')))
      have hLD : h1.objs.size ≠ env.locals := hLs (get_none_of_le hsI)
      refine ⟨mC, (hn.at' fun o e => k3 _ o (Ne.symm hIC) e).sameBut S4 hLC, fun h5 S5 => ?_⟩
      have k5 : ∀ b o, b ≠ I → b ≠ env.locals → b ≠ C → h'.get? b = some o → h5.get? b = some o := fun b o h1 h2 h3 e => (S5.2 b h3).trans ((S4.2 b h2).trans (k3 b o h1 e))
      refine hQ h1.objs.size h5 _ ys (get_none_of_le hsI) (hpl.at fun o e => k5 _ o (Ne.symm hID) hLD hDC e).isList (by omega) ?_ ?_ ?_
      · intro j r hj
        obtain ⟨t', o', rfl, e1, e2, e3, e4, e5, e6, e7⟩ := hG j r hj
        exact ⟨t', o', rfl, e1, k5 _ _ e2 (hLs e1) e4 e6, e7⟩
      · refine F4.ext (a := C) S5.extBut ?_ ?_
        · exact Nat.lt_of_lt_of_le F.lt (Nat.le_trans hsI (Nat.le_of_lt hC'))
        · intro n c hc'
          exact Nat.ne_of_lt (Nat.lt_of_lt_of_le (F.clt (hcs n c hc')) (Nat.le_trans hsI (Nat.le_of_lt hC')))
      · exact fun b o hb e => k5 b o (old b o e).1 hb (old b o e).2.2.1 (hk b o e)
  exact codeAny_compStart_list (loop _ rfl) ((Walks.list R I Dl hDlI items).self 0 _ _ _ ⟨hit1.at fun o e => K12 _ o e, hl1.at fun o e => K12 _ o e⟩ (loop _ rfl))
end
end Mine
end

section
open PySem PySem.W PyProof.Rows
namespace Mine
open PySem.Calls Builtin Builtin.Str

def Hold (L : Addr) (cs : List (Str × Addr)) (g h : Heap) : Prop := ∀ b o, b ≠ L → (∀ n c, (n, c) ∈ cs → c ≠ b) → g.get? b = some o → h.get? b = some o
def Apart (L : Addr) (cs : List (Str × Addr)) (D : Addr) : Prop := D ≠ L ∧ ∀ n c, (n, c) ∈ cs → c ≠ D
structure Lis (L : Addr) (cs : List (Str × Addr)) (h : Heap) (D : Addr) (items : Array Value) : Prop where
  ap : Apart L cs D
  is : h.IsList D items
theorem Hold.refl {L : Addr} {cs : List (Str × Addr)} {h : Heap} : Hold L cs h h := fun _ _ _ _ e => e
theorem Hold.trans {L : Addr} {cs : List (Str × Addr)} {g h k : Heap} (x : Hold L cs g h) (y : Hold L cs h k) : Hold L cs g k := fun b o h1 h2 e => y b o h1 h2 (x b o h1 h2 e)
theorem Hold.stays {L : Addr} {cs : List (Str × Addr)} {g h : Heap} (x : Stays g h) : Hold L cs g h := fun b o _ _ e => x b o e
theorem Hold.loc {L : Addr} {cs : List (Str × Addr)} {g h : Heap} (x : Heap.SameBut L g h) : Hold L cs g h := fun b o h1 _ e => (x.2 b h1).trans e
theorem Hold.cel {L : Addr} {cs : List (Str × Addr)} {g h : Heap} {n : Str} {c : Addr} (x : Heap.SameBut c g h) (hc : (n, c) ∈ cs) : Hold L cs g h := fun b o _ h2 e => (x.2 b (Ne.symm (h2 n c hc))).trans e
theorem Hold.get {L : Addr} {cs : List (Str × Addr)} {g h : Heap} {D : Addr} {o : Obj} (x : Hold L cs g h) (ha : Apart L cs D) (e : g.get? D = some o) : h.get? D = some o := x D o ha.1 ha.2 e
theorem Lis.hold {L : Addr} {cs : List (Str × Addr)} {g h : Heap} {D : Addr} {items : Array Value} (x : Lis L cs g D items) (y : Hold L cs g h) : Lis L cs h D items := ⟨x.ap, x.is.at fun o e => y.get x.ap e⟩
theorem Fm.apartNew {h₀ h : Heap} {L : Addr} {m cm : Str → Option Value} {cs : List (Str × Addr)} (F : Fm h₀ L m cs cm h) (hcs : ∀ n c, (n, c) ∈ cs → cs.lookup n = some c) {D : Addr} (hD : h.get? D = none) : Apart L cs D := by
  refine ⟨?_, fun n c hc => ?_⟩
  · obtain ⟨_, _, _, e, _⟩ := F.ns; exact ne_of_none_some hD e
  · obtain ⟨_, e, _⟩ := F.cell n c (hcs n c hc); exact Ne.symm (ne_of_none_some hD e)

theorem hcs14 {L a : Addr} {cd : Value} : ∀ n c, (n, c) ∈ (envAt 14 L a cd).cells → (envAt 14 L a cd).cells.lookup n = some c := by
  intro n c hc
  have e : (envAt 14 L a cd).cells = ([("i", L + 1 + 1 + 1 + 1 + 1 + 1), ("texts", L + 1 + 1 + 1 + 1 + 1), ("run", L + 1 + 1 + 1 + 1), ("words", L + 1 + 1 + 1), ("ahead", L + 1 + 1), ("script", L + 1)] : List (Str × Addr)) := rfl
  rw [e] at hc ⊢
  simp only [List.mem_cons, List.not_mem_nil, or_false, Prod.mk.injEq] at hc
  rcases hc with ⟨rfl, rfl⟩ | ⟨rfl, rfl⟩ | ⟨rfl, rfl⟩ | ⟨rfl, rfl⟩ | ⟨rfl, rfl⟩ | ⟨rfl, rfl⟩ <;> rfl

def lawStmt (i : Nat) : Stmt := ((defAt 14).body[i]?).getD (.Pass ⟨0, 0, 0, 0⟩)

section
variable {prog : Program} {w : World} {A : Around} {s : Shared} {mg mb : Str → Option Value} {h₀ : Heap} {L a : Addr} {cd : Value} {m cm : Str → Option Value}

/-- what a statement of the law leaves -/
def Next (h₀ : Heap) (L a : Addr) (cd : Value) (s : Shared) (P : Nat → (Str → Option Value) → (Str → Option Value) → Heap → Prop) (f : Flow) (s' : Shared) : Prop :=
  f = .next ∧ ∃ h' tk m' cm', s' = { s with heap := h', toks := tk } ∧ Fm h₀ L m' (envAt 14 L a cd).cells cm' h' ∧ Hold L (envAt 14 L a cd).cells s.heap h' ∧ P tk m' cm' h'

/-- a walk's word under one field, so that no elaborator unfolds it into a run of the program -/
structure Tri {α : Type} (M : Model) (A : Around) (p : Sem α) (Q : α → Shared → Prop) (E : Value → Shared → Prop) (s : Shared) : Prop where
  h : wpAny M A p Q E s

theorem Tri.cons {M : Model} {A : Around} {st : Stmt} {rest : List Stmt} {env : Env} {Q Q' : Flow → Shared → Prop} {E : Value → Shared → Prop} {s : Shared} (x : Tri M A (exec st env) Q' E s)
    (k : ∀ f s', Q' f s' → match f with | .next => wpAny M A (execs rest env) Q E s' | f => Q f s') : Tri M A (execs (st :: rest) env) Q E s :=
  ⟨wpAny_execs_cons (wpAny_mono x.h k fun _ _ e => e)⟩

set_option maxHeartbeats 4000000 in
theorem law_0 (F : Fm h₀ L m (envAt 14 L a cd).cells cm s.heap) :
    Tri (model prog w) A (exec (lawStmt 0) (envAt 14 L a cd)) (Next h₀ L a cd s fun tk m' cm' h' => 0 < tk ∧ m' = m ∧ (∀ n : Str, n ≠ "ahead" → cm' n = cm n) ∧
      ∃ D vs ns, cm' "ahead" = some (.ref D) ∧ Lis L (envAt 14 L a cd).cells h' D vs.toArray ∧ IntsAre vs ns ∧ ns.length = 9) (fun _ _ => False) s := by
  constructor
  refine wpAny_Assign_Name ?_
  refine wpAny_List ?_
  refine wpAny_items_cons (wpAny_Constant_int (wpAny_items_cons (wpAny_Constant_int (wpAny_items_cons (wpAny_Constant_int (wpAny_items_cons (wpAny_Constant_int (wpAny_items_cons (wpAny_Constant_int (wpAny_items_cons (wpAny_Constant_int
    (wpAny_items_cons (wpAny_Constant_int (wpAny_items_cons (wpAny_Constant_int (wpAny_items_cons (wpAny_Constant_int (wpAny_items_nil ⟨by rw [sizeLine_eq]; simp, ?_⟩))))))))))))))))))
  refine stC (F.push _) fun h2 F2 S2 => ?_
  have hnew : s.heap.get? s.heap.objs.size = none := get_none_of_le (Nat.le_refl _)
  have hap := F.apartNew hcs14 hnew
  refine ⟨rfl, h2, _, m, _, rfl, F2, (Hold.stays fun b o e => Heap.get?_push_of_some _ e).trans (Hold.cel (n := "ahead") S2 (mem_of_lookup rfl)), Nat.succ_pos _, rfl, fun n hn => if_neg hn, _, _, _, rfl, ⟨hap, ⟨_, (S2.2 _ (Ne.symm (hap.2 "ahead" _ (mem_of_lookup rfl)))).trans (Heap.get?_push_size _ rfl), rfl, _, rfl⟩⟩,
    .cons _ _ (.cons _ _ (.cons _ _ (.cons _ _ (.cons _ _ (.cons _ _ (.cons _ _ (.cons _ _ (.cons _ _ .nil)))))))), rfl⟩
end
end Mine
end

section
open PySem PySem.W PyProof.Rows
namespace Mine
open PySem.Calls Builtin Builtin.Str

section
variable {prog : Program} {w : World} {A : Around} {E : Value → Shared → Prop} {s : Shared} {env : Env}

theorem sum_any {D : Addr} {vs : List Value} {ns : List Int} (hh : A.handled = none) (hl : s.heap.IsList D vs.toArray) (hi : IntsAre vs ns) :
    wpAny (model prog w) A (call (.builtin "sum") [.ref D]) (fun v s' => (∃ n t, v = .int n t) ∧ Keeps s s') E s := by
  have hDlt : D < s.heap.objs.size := by obtain ⟨_, e, _⟩ := hl; exact Heap.lt_size e
  refine call_sum_walkAnyS ?_
  refine iterL hl fun h1 I K1 hI1 hit1 hl1 => ?_
  have hDI : D ≠ I := Nat.ne_of_lt (Nat.lt_of_lt_of_le hDlt hI1)
  have hIlt : I < h1.objs.size := by obtain ⟨_, e, _⟩ := hit1; exact Heap.lt_size e
  refine ⟨I, _, _, _, _, _, _, (fun i => ns.getD i 0), rfl, (Walks.list (A := A.in1) hh I D hDI vs.toArray).toS, ⟨hit1, hl1⟩, ?_, ?_, ?_⟩
  · intro b hb
    rcases List.mem_cons.mp hb with rfl | hb
    · exact hIlt
    · rcases List.mem_cons.mp hb with rfl | hb
      · exact Nat.lt_of_lt_of_le (Nat.lt_of_lt_of_le hDlt hI1) (Nat.le_of_lt hIlt)
      · cases hb
  · intro i v hP
    exact hi.int_at i v (by simpa using hP)
  · intro s' t' hm
    refine ⟨⟨_, _, rfl⟩, s'.heap, s'.toks, ?_, fun b o e => hm.heap b o ?_ (K1 b o e)⟩
    · obtain ⟨hp, g, d, t, os⟩ := s'
      have h1 : g = s.gens := hm.gens
      have h2 : d = s.drawn := hm.drawn
      have h3 : os = s.os := hm.os
      subst h1 h2 h3
      rfl
    · intro hb
      have : b = I := by simpa using hb
      subst this
      exact absurd (Heap.lt_size e) (Nat.not_lt.mpr hI1)
end

section
variable {prog : Program} {w : World} {A : Around} {s : Shared} {mg mb : Str → Option Value} {h₀ : Heap} {L a : Addr} {cd : Value} {m cm : Str → Option Value}

set_option maxHeartbeats 4000000 in
theorem law_1 {Da Ds : Addr} {va vs : List Value} {na ns : List Int} (R : Rm A 1) (T : Wd mg mb h₀) (F : Fm h₀ L m (envAt 14 L a cd).cells cm s.heap)
    (ha : cm "ahead" = some (.ref Da)) (hla : Lis L (envAt 14 L a cd).cells s.heap Da va.toArray) (hia : IntsAre va na) (h9 : na.length = 9)
    (hs : cm "script" = some (.ref Ds)) (hls : h₀.IsList Ds vs.toArray) (his : IntsAre vs ns) (h63 : ns.length ≤ 1000) :
    wpAny (model prog w) A (exec (lawStmt 1) (envAt 14 L a cd)) (Next h₀ L a cd s fun _ m' cm' h' => cm' = cm ∧
      ∃ D vs' ns', m' "sums" = some (.ref D) ∧ Lis L (envAt 14 L a cd).cells h' D vs'.toArray ∧ IntsAre vs' ns' ∧ ns'.length = 9) (fun _ _ => False) s := by
  refine wpAny_Assign_ListComp_free (fun _ => true) (fun _ y => ∃ n t, y = Value.int n t) rfl (cl := [("script", L + 1), ("ahead", L + 1 + 1)]) rfl (by decide) rfl (by decide) rfl rfl rfl ?_
  have T1 := T.keeps F.keep
  refine callT1 T1 b_range (wpAny_Constant_int ?_)
  refine rangeIter1 (n := 9) (by decide) fun h2 tk2 I K2 hI0 hI1 hI2 => ?_
  have hII : ∀ b o, s.heap.get? b = some o → b ∉ [I] := fun b o e hm => by
    have : b = I := by simpa using hm
    subst this
    have e' : s.heap.get? b = none := hI0
    rw [e'] at e; cases e
  have hLI : L ∉ [I] := by obtain ⟨o, _, _, e, _⟩ := F.ns; exact hII L o e
  refine ⟨I, [I], [I], 9, _, _, m, rfl, walksLt (Walks.range R.h I 0 1 9), by decide, by simpa using hI2, by simpa using hI1, hLI, F.ns.keeps K2, ⟨?_, ?_⟩, ?_⟩
  · intro C i v s₃ m₃ E' hC hP hn hm hold htk
    exact wpAny_tests_nil ⟨rfl, _, _, rfl, fun _ _ e => e⟩
  · intro C i v s₃ m₃ E' hC hP _ hn hm hold htk
    obtain ⟨hin, ti, rfl⟩ := hP
    have old : Stays s.heap s₃.heap := fun b o e => hold b o (hII b o e) (K2 b o e)
    have F3 := F.kept old
    have c1 := F3.cell "ahead" _ rfl
    have c2 := F3.cell "script" _ rfl
    rw [ha] at c1
    rw [hs] at c2
    have hva : va.length = 9 := hia.length.trans h9
    obtain ⟨vk, hvk⟩ : ∃ vk, va[i]? = some vk := ⟨_, List.getElem?_eq_getElem (by omega)⟩
    obtain ⟨n, tn, rfl, _⟩ := hia.at i vk hvk
    have hlS : s₃.heap.IsList Ds vs.toArray := hls.at fun o e => F3.keep _ o e
    refine wpAny_BinOp (Subscript_ (wpAny_Name (wpAny_loadName_cell rfl rfl rfl c1 (wpAny_Name (wpAny_loadName_local rfl rfl hn hm ?_) rfl)) rfl))
    refine itemL (v := .int n tn) (hla.hold (Hold.stays old)).is (by omega) (by omega) ?_ ?_
    · have : ((0 : Int) + (i : Nat) * 1).toNat = i := by omega
      rw [this]; simpa using hvk
    refine callB1 (T.keeps F3.keep) b_sum ?_
    refine wpAny_Subscript_Slice_step (T := "list") list_getitem_lookup (wpAny_Name (wpAny_loadName_cell rfl rfl rfl c2 ?_) rfl)
    refine wpAny_Slice (evalPart_some_step (wpAny_Name (wpAny_loadName_local rfl rfl hn hm (evalPart_none_step (evalPart_some_step (wpAny_Constant_int ?_)))) rfl))
    refine ⟨(hlS.push _).typeIs, ?_⟩
    have hvl : vs.length = ns.length := his.length
    refine wpAny_getItem_list_slice (hlS.push _) (Heap.IsSliceOf.new ..) (.int _ _) .none (.int _ _) (by simp) ?_ (by rw [List.size_toArray, sizeLine_eq]; omega)
    refine wpAny_mono (sum_any R.h ⟨_, Heap.get?_push_size _ rfl, rfl, _, rfl⟩ (his.pick (some ((0 : Int) + (i : Nat) * 1)) none (some 9))) (fun r s₄ hr => ?_) fun _ _ e => e
    obtain ⟨⟨n', t', rfl⟩, h5, tk5, rfl, K5⟩ := hr
    exact add_int ⟨⟨_, _, rfl⟩, _, _, rfl, fun b o e => K5 b o (Heap.get?_push_of_some _ (Heap.get?_push_of_some _ e))⟩
  · intro D h' tk' ys vs' hnew hl hpl' hlen hP hF hns hk
    have hD0 : s.heap.get? D = none := by
      cases e : s.heap.get? D with
      | none => rfl
      | some o => rw [K2 D o e] at hnew; cases hnew
    have old : ∀ b o, b ≠ L → s.heap.get? b = some o → h'.get? b = some o := fun b o hb e => hk b o hb (hII b o e) (K2 b o e)
    have hmap : ∀ (l : List Value), l.filter (fun _ => true) = l := fun l => by simp
    rw [hmap] at hF
    have hyl : ys.toList.length = 9 := by rw [← hF.length, hlen]
    refine ⟨rfl, h', tk', _, cm, rfl, ⟨hns, fun b o e => old b o (Nat.ne_of_lt (F.old e)) (F.keep b o e), F.above, fun n c hc => ?_, F.apart, F.cabove⟩, fun b o h1 _ e => old b o h1 e, rfl, D, ys.toList, ys.toList.map numOf, rfl, ⟨F.apartNew hcs14 hD0, hl⟩, ?_, by simpa using hyl⟩
    · obtain ⟨oc, hoc, hd⟩ := F.cell n c hc
      exact ⟨oc, old c oc (Nat.ne_of_gt (F.cabove n c (mem_of_lookup hc))) hoc, hd⟩
    · refine intsAre_of _ _ (by simp) fun j v hj => ?_
      obtain ⟨_, n, t, rfl⟩ := Paired.right hF v (List.mem_of_getElem? hj)
      exact ⟨t, n, rfl, by rw [List.getElem?_map, hj]; rfl⟩
end
end Mine
end

section
open PySem PySem.W PyProof.Rows
namespace Mine
open PySem.Calls Builtin Builtin.Str

section
variable {prog : Program} {w : World} {A : Around} {s : Shared} {mg mb : Str → Option Value} {h₀ : Heap} {L a : Addr} {cd : Value} {m cm : Str → Option Value}

set_option maxHeartbeats 4000000 in
theorem law_2 {D0 a10 a9 : Addr} {vs : List Value} {ns : List Int} (R : Rm A 3) (T : Wd mg mb h₀) (F : Fm h₀ L m (envAt 14 L a cd).cells cm s.heap)
    (h10 : mg (defAt 10).name = some (.ref a10)) (h9 : mg (defAt 9).name = some (.ref a9))
    (hm : m "sums" = some (.ref D0)) (hl : Lis L (envAt 14 L a cd).cells s.heap D0 vs.toArray) (hi : IntsAre vs ns) (hn : ns.length = 9) :
    wpAny (model prog w) A (exec (lawStmt 2) (envAt 14 L a cd)) (Next h₀ L a cd s fun _ m' cm' h' => m' = m ∧ (∀ n : Str, n ≠ "words" → cm' n = cm n) ∧
      ∃ D l, cm' "words" = some (.ref D) ∧ Lis L (envAt 14 L a cd).cells h' D (strValues l).toArray ∧ l.length = 4 ∧ ∀ y ∈ l, Good 100 y.1) (fun _ _ => False) s := by
  refine wpAny_Assign_Name ?_
  refine callF1 10 (T.keeps F.keep) (by decide) h10 (nmL F hm ⟨fun _ _ e => e, ?_⟩)
  refine wpAny_mono (words_call (R.mono (by omega)) (T.keeps F.keep) h10 h9 hl.is hi hn) (fun r s1 hr => ?_) fun _ _ e => e
  obtain ⟨D, l, rfl, hD, hlD, hl4, hg, h1, tk1, rfl, K1⟩ := hr
  have F1 := F.kept K1
  refine stC F1 fun h2 F2 S2 => ?_
  have hap := F.apartNew hcs14 hD
  have H2 : Hold L (envAt 14 L a cd).cells h1 h2 := Hold.cel (n := "words") S2 (mem_of_lookup rfl)
  exact ⟨rfl, h2, _, m, _, rfl, F2, (Hold.stays K1).trans H2, rfl, fun n hn => if_neg hn, D, l, rfl, (Lis.mk hap hlD).hold H2, hl4, hg⟩

def runs : List Str := ["a", "ba", "b", "aab"]

set_option maxHeartbeats 4000000 in
theorem law_3 {D0 : Addr} {vs : List Value} {ns : List Int} (F : Fm h₀ L m (envAt 14 L a cd).cells cm s.heap) (htk : 0 < s.toks)
    (hm : m "sums" = some (.ref D0)) (hl : Lis L (envAt 14 L a cd).cells s.heap D0 vs.toArray) (hi : IntsAre vs ns) (hn : ns.length = 9) :
    wpAny (model prog w) A (exec (lawStmt 3) (envAt 14 L a cd)) (Next h₀ L a cd s fun tk m' cm' h' => m' = m ∧ (∀ n : Str, n ≠ "run" → cm' n = cm n) ∧
      ∃ (r : Str) (t : Nat), cm' "run" = some (.str r t) ∧ r ∈ runs ∧ 0 < t ∧ t < tk) (fun _ _ => False) s := by
  have hv : vs.length = 9 := hi.length.trans hn
  obtain ⟨v8, h8⟩ : ∃ v, vs[8]? = some v := ⟨_, List.getElem?_eq_getElem (by omega)⟩
  obtain ⟨n8, t8, rfl, _⟩ := hi.at 8 v8 h8
  refine wpAny_Assign_Name (Subscript_ ?_)
  refine wpAny_List ?_
  refine wpAny_items_cons (wpAny_Constant_str (wpAny_items_cons (wpAny_Constant_str (wpAny_items_cons (wpAny_Constant_str (wpAny_items_cons (wpAny_Constant_str (wpAny_items_nil ⟨by rw [sizeLine_eq]; simp, ?_⟩))))))))
  have F1 := F.push { cls := .type "list", data := .seq [Value.str (Str.ofString "a") s.toks, .str (Str.ofString "ba") (s.toks + 1), .str (Str.ofString "b") (s.toks + 1 + 1), .str (Str.ofString "aab") (s.toks + 1 + 1 + 1)].toArray }
  refine wpAny_BinOp (Subscript_ (nmL F1 hm (wpAny_Constant_int ?_)))
  refine itemL (v := .int n8 t8) (hl.is.push _) (by decide) (by decide) (by simpa using h8) ?_
  refine wpAny_Constant_int (mod_int' (by decide) ?_)
  have hr1 : 0 ≤ n8.fmod 4 := Int.fmod_nonneg_of_pos n8 (by decide)
  have hr2 : n8.fmod 4 < 4 := Int.fmod_lt_of_pos n8 (by decide)
  obtain ⟨r, t, hr, hrm, ht1, ht2⟩ : ∃ (r : Str) (t : Nat), [Value.str (Str.ofString "a") s.toks, .str (Str.ofString "ba") (s.toks + 1), .str (Str.ofString "b") (s.toks + 1 + 1), .str (Str.ofString "aab") (s.toks + 1 + 1 + 1)].toArray[(n8.fmod 4).toNat]? = some (.str r t) ∧
      r ∈ runs ∧ 0 < t ∧ t < s.toks + 4 := by
    have : n8.fmod 4 = 0 ∨ n8.fmod 4 = 1 ∨ n8.fmod 4 = 2 ∨ n8.fmod 4 = 3 := by omega
    rcases this with e | e | e | e <;> rw [e]
    · exact ⟨_, _, rfl, by simp [runs], htk, by omega⟩
    · exact ⟨_, _, rfl, by simp [runs], by omega, by omega⟩
    · exact ⟨_, _, rfl, by simp [runs], by omega, by omega⟩
    · exact ⟨_, _, rfl, by simp [runs], by omega, by omega⟩
  refine itemL (v := .str r t) ⟨_, Heap.get?_push_size _ rfl, rfl, _, rfl⟩ hr1 (by omega) hr ?_
  refine stC F1 fun h2 F2 S2 => ?_
  have H2 := Hold.cel (L := L) (cs := (envAt 14 L a cd).cells) (n := "run") S2 (mem_of_lookup rfl)
  exact ⟨rfl, h2, _, m, _, rfl, F2, (Hold.stays fun b o e => Heap.get?_push_of_some _ e).trans H2, rfl, fun n hn => if_neg hn, r, t, rfl, hrm, ht1, Nat.lt_of_lt_of_le ht2 (by dsimp only; omega)⟩
end
end Mine
end

section
open PySem PySem.W PyProof.Rows
namespace Mine
open PySem.Calls Builtin Builtin.Str

theorem paired_strs (g : Str → Str) : ∀ {l : List (Str × Tok)} {ys : List Value}, Paired (fun v y => ∃ x t u, v = Value.str x t ∧ y = Value.str (g x) u) (strValues l) ys →
    ∃ l', ys = strValues l' ∧ l'.map (·.1) = (l.map (·.1)).map g
  | [], ys, h => by
    have h' : Paired (fun v y => ∃ x t u, v = Value.str x t ∧ y = Value.str (g x) u) [] ys := h
    cases h'
    exact ⟨[], rfl, rfl⟩
  | (x, t) :: l, ys, h => by
    have h' : Paired (fun v y => ∃ x t u, v = Value.str x t ∧ y = Value.str (g x) u) (Value.str x t :: strValues l) ys := h
    cases h' with
    | cons h1 h2 =>
      obtain ⟨x', t', u, e1, rfl⟩ := h1
      cases e1
      obtain ⟨l', rfl, e⟩ := paired_strs g h2
      exact ⟨(g x, u) :: l', rfl, by simp [e]⟩

def mark : Str := "#"
def textsOf (ws : List Str) (run : Str) : List Str := ws ++ ws.map (fun x => Txt.replace x mark "") ++ ws.map (fun x => Txt.replace x mark run)

section
variable {prog : Program} {w : World} {A : Around} {E : Value → Shared → Prop} {s : Shared} {env : Env} {Q : Value → Shared → Prop}

/-- a comprehension over a list of texts, its element a text made of the item -/
theorem comp_strs {elt iter : Expr} {x : Str} {px pos : Pos} {scope : Scope} {cl : List (Str × Addr)} {D : Addr} {l : List (Str × Tok)} (g : Str → Str) (hh : A.handled = none)
    (hclos : closureFor scope env = pure cl) (hcell : ∀ y ∈ scope.names, y.2 ≠ .cell) (hkind : scope.kind = .function) (hnames : ∀ y ∈ scope.names, y.2 = .local → scope.names.lookup y.1 = some .local) (hx : scope.names.lookup x = some .local)
    (hiter : ∀ Q' (E : Value → Shared → Prop), Q' (.ref D) s → wpAny (model prog w) A (eval iter env) Q' E s) (hl : s.heap.IsList D (strValues l).toArray) (hsz : l.length ≤ 1000)
    (helt : ∀ C (y : Str × Tok) (s₃ : Shared) m₃ E', y ∈ l → s₃.heap.Ns C m₃ → m₃ x = some (.str y.1 y.2) → Stays s.heap s₃.heap → s.toks ≤ s₃.toks →
      wpAny (model prog w) A (eval elt (compEnvC scope cl C env)) (fun r s₄ => (∃ u, r = .str (g y.1) u) ∧ Keeps s₃ s₄) E' s₃)
    (hQ : ∀ D' h' tk l', s.heap.get? D' = none → h'.IsList D' (strValues l').toArray → l'.map (·.1) = (l.map (·.1)).map g → Stays s.heap h' → s.toks ≤ tk → Q (.ref D') { s with heap := h', toks := tk })
    (hs : ∀ x, foldedSetIterable iter env x = pure x := by intro _; rfl) :
    wpAny (model prog w) A (eval (.ListComp elt [⟨.Name x px, iter, [], 0⟩] scope pos) env) Q E s := by
  refine wpAny_with_toks (Nat.le_refl s.toks) ?_
  refine wpAny_ListComp_free (fun _ => true) (fun v y => ∃ x t u, v = Value.str x t ∧ y = Value.str (g x) u) hclos hcell hkind hnames hx (hiter _ _ ?_) hs
  have hDlt : D < s.heap.objs.size := by obtain ⟨_, e, _⟩ := hl; exact Heap.lt_size e
  refine iterL hl fun h1 I K1 hI1 hit1 hl1 => ?_
  have hDI : D ≠ I := Nat.ne_of_lt (Nat.lt_of_lt_of_le hDlt hI1)
  have hIlt : I < h1.objs.size := by obtain ⟨_, e, _⟩ := hit1; exact Heap.lt_size e
  have hsize : (strValues l).toArray.size = l.length := by simp [strValues]
  have hII : ∀ b o, s.heap.get? b = some o → b ∉ [I] := fun b o e hm => by
    have : b = I := by simpa using hm
    subst this
    exact absurd (Heap.lt_size e) (Nat.not_lt.mpr hI1)
  refine ⟨I, _, _, _, _, _, rfl, Walks.list hh I D hDI (strValues l).toArray, by rw [hsize, sizeLine_eq]; omega, ⟨hit1, hl1⟩, ?_, ⟨?_, ?_⟩, ?_⟩
  · intro b hb
    rcases List.mem_cons.mp hb with rfl | hb
    · exact hIlt
    · rcases List.mem_cons.mp hb with rfl | hb
      · exact Nat.lt_of_lt_of_le (Nat.lt_of_lt_of_le hDlt hI1) (Nat.le_of_lt hIlt)
      · cases hb
  · intro C i v s₃ m₃ E' hC hP hn hm hold htk
    exact wpAny_tests_nil ⟨rfl, _, _, rfl, fun _ _ e => e⟩
  · intro C i v s₃ m₃ E' hC hP _ hn hm hold htk
    obtain ⟨y, hy, rfl⟩ := strValues_get hP
    refine wpAny_mono (helt C y s₃ m₃ E' (List.mem_of_getElem? hy) hn hm (fun b o e => hold b o (hII b o e) (K1 b o e)) htk) (fun r s₄ hr => ?_) fun _ _ e => e
    obtain ⟨⟨u, rfl⟩, k⟩ := hr
    exact ⟨⟨_, _, u, rfl, rfl⟩, k⟩
  · intro D' h' tk ys vs hnew hl' hpl hlen hP hF hk
    have hvs : vs = strValues l := by
      have := list_of_places hlen hP
      simpa using this
    have hmap : vs.filter (fun _ => true) = vs := by simp
    rw [hmap, hvs] at hF
    obtain ⟨l', e1, e2⟩ := paired_strs g hF
    have hD0 : s.heap.get? D' = none := by
      cases e : s.heap.get? D' with
      | none => rfl
      | some o => rw [K1 D' o e] at hnew; cases hnew
    have e3 : ys = (strValues l').toArray := by rw [← e1]
    rw [e3] at hl'
    exact fun htk => hQ D' h' tk l' hD0 hl' e2 (fun b o e => hk b o (hII b o e) (K1 b o e)) htk

/-- what stands in h beyond h₀ and beside the place L -/
def beyond (h₀ h : Heap) (L : Addr) : List (Addr × Obj) := (List.range h.objs.size).filterMap fun b => if b = L then none else if (h₀.get? b).isSome then none else (h.get? b).map fun o => (b, o)

theorem mem_beyond {h₀ h : Heap} {L : Addr} {p : Addr × Obj} : p ∈ beyond h₀ h L ↔ h.get? p.1 = some p.2 ∧ p.1 ≠ L ∧ h₀.get? p.1 = none := by
  obtain ⟨b, o⟩ := p
  unfold beyond
  rw [List.mem_filterMap]
  constructor
  · rintro ⟨c, _, hc⟩
    by_cases h1 : c = L
    · rw [if_pos h1] at hc; cases hc
    · rw [if_neg h1] at hc
      by_cases h2 : (h₀.get? c).isSome = true
      · rw [if_pos h2] at hc; cases hc
      · rw [if_neg h2, Option.map_eq_some_iff] at hc
        obtain ⟨o', e, e'⟩ := hc
        cases e'
        exact ⟨e, h1, by simpa using h2⟩
  · rintro ⟨e, h1, h2⟩
    refine ⟨b, List.mem_range.mpr (Heap.lt_size e), ?_⟩
    rw [if_neg h1, if_neg (by rw [h2]; decide), e]
    rfl

/-- a frame whose names stand, and beside which all stands -/
theorem Fm.but {h₀ h h' : Heap} {L : Addr} {m cm : Str → Option Value} {cs : List (Str × Addr)} (F : Fm h₀ L m cs cm h) (hn : h'.Ns L m) (hk : ∀ b o, b ≠ L → h.get? b = some o → h'.get? b = some o) : Fm h₀ L m cs cm h' :=
  ⟨hn, fun b o e => hk b o (Nat.ne_of_lt (F.old e)) (F.keep b o e), F.above, fun n c hc => let ⟨oc, hoc, hd⟩ := F.cell n c hc; ⟨oc, hk c oc (Nat.ne_of_gt (F.cabove n c (mem_of_lookup hc))) hoc, hd⟩, F.apart, F.cabove⟩

theorem addL {h₀ : Heap} {L : Addr} {m cm : Str → Option Value} {cs : List (Str × Addr)} {l b : Addr} {vs ws : List Value} (F : Fm h₀ L m cs cm s.heap) (hl : s.heap.IsList l vs.toArray) (hb : s.heap.IsList b ws.toArray)
    (hsz : vs.length + ws.length ≤ sizeLine)
    (h : ∀ h' D, Fm h₀ L m cs cm h' → (∀ b o, b ≠ L → s.heap.get? b = some o → h'.get? b = some o) → s.heap.get? D = none → D ≠ L → h'.IsList D (vs ++ ws).toArray → Q (.ref D) { s with heap := h' }) :
    wpAny (model prog w) A (binaryOp .Add (.ref l) (.ref b)) Q E s := by
  refine add_lists (news := beyond h₀ s.heap L) ⟨F.ns, F.keep, F.above⟩ (fun p hp => mem_beyond.mp hp) hl hb (fun h' F' N' => ?_) hsz
  have K : ∀ b o, b ≠ L → s.heap.get? b = some o → h'.get? b = some o := by
    intro b o hb e
    cases e0 : h₀.get? b with
    | none => exact (N' (b, o) (List.mem_cons_of_mem _ (mem_beyond.mpr ⟨e, hb, e0⟩))).1
    | some o' =>
      have := F.keep b o' e0
      rw [e] at this
      cases this
      exact F'.keep b o e0
  have z := N' _ List.mem_cons_self
  exact h h' _ (F.but F'.ns K) K (get_none_of_le (Nat.le_refl _)) z.2.1 ⟨_, z.1, rfl, _, rfl⟩
end

theorem strValues_append (l l' : List (Str × Tok)) : strValues l ++ strValues l' = strValues (l ++ l') := by simp [strValues]

section
variable {prog : Program} {w : World} {A : Around} {s : Shared} {mg mb : Str → Option Value} {h₀ : Heap} {L a : Addr} {cd : Value} {m cm : Str → Option Value}

set_option maxHeartbeats 4000000 in
theorem law_4 {Dw : Addr} {l : List (Str × Tok)} {run : Str} {tr : Nat} (R : Rm A 1) (F : Fm h₀ L m (envAt 14 L a cd).cells cm s.heap) (htk : 0 < s.toks)
    (hw : cm "words" = some (.ref Dw)) (hl : Lis L (envAt 14 L a cd).cells s.heap Dw (strValues l).toArray) (h4 : l.length = 4) (hg : ∀ y ∈ l, Good 100 y.1)
    (hr : cm "run" = some (.str run tr)) (hrun : run ∈ runs) (htr0 : 0 < tr) (htr : tr < s.toks) :
    wpAny (model prog w) A (exec (lawStmt 4) (envAt 14 L a cd)) (Next h₀ L a cd s fun tk m' cm' h' => m' = m ∧ (∀ n : Str, n ≠ "texts" → cm' n = cm n) ∧
      ∃ D lt, cm' "texts" = some (.ref D) ∧ Lis L (envAt 14 L a cd).cells h' D (strValues lt).toArray ∧ lt.map (·.1) = textsOf (l.map (·.1)) run) (fun _ _ => False) s := by
  have hrl : run.length ≤ 3 ∧ (mark == run) = false := by
    have : run = "a" ∨ run = "ba" ∨ run = "b" ∨ run = "aab" := by simpa [runs] using hrun
    rcases this with rfl | rfl | rfl | rfl <;> decide
  refine wpAny_Assign_Name (wpAny_BinOp (wpAny_BinOp (nmC F hw ?_)))
  refine comp_strs (fun x => Txt.replace x mark "") R.h (cl := []) rfl (by decide) rfl (by decide) rfl (fun Q' E' hq => nmC F hw hq) hl.is (by omega) ?_ ?_
  · intro C y s₃ m₃ E' hy hn hm hk ht
    refine Call_method2 rfl rfl rfl (wpAny_Name (wpAny_loadName_local rfl rfl hn hm ?_) rfl)
    refine methS2 PySem.F.slot_str_replace PySem.F.type_str_replace (wpAny_Constant_str ?_)
    refine wpAny_Constant_str ?_
    have hyl := (hg y hy).1
    refine SC.replace (show @Ne Nat _ _ by omega) (show @Ne Nat _ _ by dsimp only; omega) (show @Ne Nat _ _ by dsimp only; omega) (by decide) ?_ (fun t' k' => ⟨⟨_, rfl⟩, _, _, rfl, fun _ _ e => e⟩)
    show y.1.length + (y.1.length + 1) * 0 ≤ _
    omega
  intro D1 h1 tk1 l1 hD1 hl1 e1 K1 htk1
  have hl1l : l1.length = 4 := by have := congrArg List.length e1; simpa [h4] using this
  refine addL (F.kept K1) (hl.is.at fun o e => K1 _ o e) hl1 (by simp [strValues, sizeLine_eq]; omega) fun h2 D2 F2 K2 hD2 _ hl2 => ?_
  have hlw : h2.IsList Dw (strValues l).toArray := (hl.is.at fun o e => K1 _ o e).at fun o e => K2 _ o hl.ap.1 e
  refine comp_strs (fun x => Txt.replace x mark run) R.h (cl := [("run", L + 1 + 1 + 1 + 1)]) rfl (by decide) rfl (by decide) rfl (fun Q' E' hq => nmC F2 hw hq) hlw (by omega) ?_ ?_
  · intro C y s₃ m₃ E' hy hn hm hk ht
    have c1 := (F2.kept hk).cell "run" _ rfl
    rw [hr] at c1
    refine Call_method2 rfl rfl rfl (wpAny_Name (wpAny_loadName_local rfl rfl hn hm ?_) rfl)
    refine methS2 PySem.F.slot_str_replace PySem.F.type_str_replace (wpAny_Constant_str ?_)
    refine wpAny_Name (wpAny_loadName_cell rfl rfl rfl c1 ?_) rfl
    have hyl := (hg y hy).1
    have ht' : s.toks ≤ s₃.toks := Nat.le_trans htk1 ht
    refine SC.replace (show @Ne Nat _ _ by omega) (show @Ne Nat _ _ by omega) (show @Ne Nat _ _ by omega) hrl.2 ?_ (fun t' k' => ⟨⟨_, rfl⟩, _, _, rfl, fun _ _ e => e⟩)
    have : (y.1.length + 1) * run.length ≤ 101 * 3 := Nat.mul_le_mul (by omega) hrl.1
    omega
  intro D3 h3 tk3 l3 hD3 hl3 e3 K3 htk3
  have hl3l : l3.length = 4 := by have := congrArg List.length e3; simpa [h4] using this
  refine addL (F2.kept K3) (hl2.at fun o e => K3 _ o e) hl3 (by simp [strValues, sizeLine_eq]; omega) fun h5 D5 F5 K5 hD5 hDL hl5 => ?_
  refine stC F5 fun h6 F6 S6 => ?_
  have K : ∀ b o, b ≠ L → s.heap.get? b = some o → h5.get? b = some o := fun b o hb e => K5 b o hb (K3 b o (K2 b o hb (K1 b o e)))
  have hD5s : s.heap.get? D5 = none := by
    cases e : s.heap.get? D5 with
    | none => rfl
    | some o => rw [K3 D5 o (K2 D5 o hDL (K1 D5 o e))] at hD5; cases hD5
  have H6 := Hold.cel (L := L) (cs := (envAt 14 L a cd).cells) (n := "texts") S6 (mem_of_lookup rfl)
  refine ⟨rfl, h6, _, m, _, rfl, F6, Hold.trans (fun b o hb _ e => K b o hb e) H6, rfl, fun n hn => if_neg hn, D5, l ++ l1 ++ l3, rfl, (Lis.mk (F.apartNew hcs14 hD5s) ?_).hold H6, ?_⟩
  · rw [strValues_append, strValues_append] at hl5; exact hl5
  · simp only [List.map_append, e1, e3, textsOf]
end
end Mine
end

section
open PySem PySem.W PyProof.Rows
namespace Mine
open PySem.Calls Builtin Builtin.Str

def boolsOf (g : Str → Bool) (l : List (Str × Tok)) : List Value := l.map fun p => .bool (g p.1)

theorem paired_bools (g : Str → Bool) : ∀ {l : List (Str × Tok)} {ys : List Value}, Paired (fun v y => ∃ x t, v = Value.str x t ∧ y = Value.bool (g x)) (strValues l) ys → ys = boolsOf g l
  | [], ys, h => by
    have h' : Paired (fun v y => ∃ x t, v = Value.str x t ∧ y = Value.bool (g x)) [] ys := h
    cases h'
    rfl
  | (x, t) :: l, ys, h => by
    have h' : Paired (fun v y => ∃ x t, v = Value.str x t ∧ y = Value.bool (g x)) (Value.str x t :: strValues l) ys := h
    cases h' with
    | cons h1 h2 =>
      obtain ⟨x', t', e1, rfl⟩ := h1
      cases e1
      rw [paired_bools g h2]; rfl

section
variable {prog : Program} {w : World} {A : Around} {E : Value → Shared → Prop} {s : Shared} {env : Env} {Q : Value → Shared → Prop}

/-- a comprehension over a list of texts, its element a bool told of the item -/
theorem comp_bools {elt iter : Expr} {x : Str} {px pos : Pos} {scope : Scope} {cl : List (Str × Addr)} {D : Addr} {l : List (Str × Tok)} (g : Str → Bool) (hh : A.handled = none)
    (hclos : closureFor scope env = pure cl) (hcell : ∀ y ∈ scope.names, y.2 ≠ .cell) (hkind : scope.kind = .function) (hnames : ∀ y ∈ scope.names, y.2 = .local → scope.names.lookup y.1 = some .local) (hx : scope.names.lookup x = some .local)
    (hiter : ∀ Q' (E : Value → Shared → Prop), Q' (.ref D) s → wpAny (model prog w) A (eval iter env) Q' E s) (hl : s.heap.IsList D (strValues l).toArray) (hsz : l.length ≤ 1000)
    (helt : ∀ C (y : Str × Tok) (s₃ : Shared) m₃ E', y ∈ l → s₃.heap.Ns C m₃ → m₃ x = some (.str y.1 y.2) → Stays s.heap s₃.heap → s.toks ≤ s₃.toks →
      wpAny (model prog w) A (eval elt (compEnvC scope cl C env)) (fun r s₄ => r = .bool (g y.1) ∧ Keeps s₃ s₄) E' s₃)
    (hQ : ∀ D' h' tk, s.heap.get? D' = none → h'.IsList D' (boolsOf g l).toArray → Stays s.heap h' → Q (.ref D') { s with heap := h', toks := tk })
    (hs : ∀ x, foldedSetIterable iter env x = pure x := by intro _; rfl) :
    wpAny (model prog w) A (eval (.ListComp elt [⟨.Name x px, iter, [], 0⟩] scope pos) env) Q E s := by
  refine wpAny_ListComp_free (fun _ => true) (fun v y => ∃ x t, v = Value.str x t ∧ y = Value.bool (g x)) hclos hcell hkind hnames hx (hiter _ _ ?_) hs
  have hDlt : D < s.heap.objs.size := by obtain ⟨_, e, _⟩ := hl; exact Heap.lt_size e
  refine iterL hl fun h1 I K1 hI1 hit1 hl1 => ?_
  have hDI : D ≠ I := Nat.ne_of_lt (Nat.lt_of_lt_of_le hDlt hI1)
  have hIlt : I < h1.objs.size := by obtain ⟨_, e, _⟩ := hit1; exact Heap.lt_size e
  have hsize : (strValues l).toArray.size = l.length := by simp [strValues]
  have hII : ∀ b o, s.heap.get? b = some o → b ∉ [I] := fun b o e hm => by
    have : b = I := by simpa using hm
    subst this
    exact absurd (Heap.lt_size e) (Nat.not_lt.mpr hI1)
  refine ⟨I, _, _, _, _, _, rfl, Walks.list hh I D hDI (strValues l).toArray, by rw [hsize, sizeLine_eq]; omega, ⟨hit1, hl1⟩, ?_, ⟨?_, ?_⟩, ?_⟩
  · intro b hb
    rcases List.mem_cons.mp hb with rfl | hb
    · exact hIlt
    · rcases List.mem_cons.mp hb with rfl | hb
      · exact Nat.lt_of_lt_of_le (Nat.lt_of_lt_of_le hDlt hI1) (Nat.le_of_lt hIlt)
      · cases hb
  · intro C i v s₃ m₃ E' hC hP hn hm hold htk
    exact wpAny_tests_nil ⟨rfl, _, _, rfl, fun _ _ e => e⟩
  · intro C i v s₃ m₃ E' hC hP _ hn hm hold htk
    obtain ⟨y, hy, rfl⟩ := strValues_get hP
    refine wpAny_mono (helt C y s₃ m₃ E' (List.mem_of_getElem? hy) hn hm (fun b o e => hold b o (hII b o e) (K1 b o e)) htk) (fun r s₄ hr => ?_) fun _ _ e => e
    obtain ⟨rfl, k⟩ := hr
    exact ⟨⟨_, _, rfl, rfl⟩, k⟩
  · intro D' h' tk ys vs hnew hl' hpl hlen hP hF hk
    have hvs : vs = strValues l := by
      have := list_of_places hlen hP
      simpa using this
    have hmap : vs.filter (fun _ => true) = vs := by simp
    rw [hmap, hvs] at hF
    have e1 := paired_bools g hF
    have hD0 : s.heap.get? D' = none := by
      cases e : s.heap.get? D' with
      | none => rfl
      | some o => rw [K1 D' o e] at hnew; cases hnew
    have e3 : ys = (boolsOf g l).toArray := by rw [← e1]
    rw [e3] at hl'
    exact hQ D' h' tk hD0 hl' (fun b o e => hk b o (hII b o e) (K1 b o e))
end

/-- what _ellipsis_match must know of the text that it is given -/
def EllOk (want : Str) : Prop := want.length ≤ 1000 ∧ (Txt.contains want dots = true → 2 ≤ (Txt.split want dots).length ∧ (Txt.split want dots).length ≤ 1000 ∧ (∀ x ∈ Txt.split want dots, x.length ≤ 1000) ∧
      (partsBetween want (occurrences want dots 0 want.length (want.length + 1)) dots.length).length ≤ sizeLine)

def takes (x t : Str) : Bool := ellV (Txt.replace x mark dots) t

/-- the rows of told -/
def IsRow (lt : List (Str × Tok)) (x : Str) (o : Obj) : Prop := o.cls = .type "list" ∧ ∃ n, o.data = .seq (boolsOf (takes x) lt).toArray n

section
variable {prog : Program} {w : World} {A : Around} {s : Shared} {mg mb : Str → Option Value} {h₀ : Heap} {L a : Addr} {cd : Value} {m cm : Str → Option Value}

set_option maxHeartbeats 4000000 in
theorem law_5 {Dw Dt a7 : Addr} {l lt : List (Str × Tok)} (R : Rm A 2) (T : Wd mg mb h₀) (h7 : mg (defAt 7).name = some (.ref a7)) (F : Fm h₀ L m (envAt 14 L a cd).cells cm s.heap) (htk : 0 < s.toks)
    (hw : cm "words" = some (.ref Dw)) (hl : Lis L (envAt 14 L a cd).cells s.heap Dw (strValues l).toArray) (h4 : l.length = 4) (hg : ∀ y ∈ l, Good 100 y.1 ∧ EllOk (Txt.replace y.1 mark dots))
    (ht : cm "texts" = some (.ref Dt)) (hlt : Lis L (envAt 14 L a cd).cells s.heap Dt (strValues lt).toArray) (h12 : lt.length ≤ 1000) (hlen : ∀ y ∈ lt, y.1.length ≤ 1000) :
    wpAny (model prog w) A (exec (lawStmt 5) (envAt 14 L a cd)) (Next h₀ L a cd s fun tk m' cm' h' => cm' = cm ∧
      ∃ D ys, m' "told" = some (.ref D) ∧ Lis L (envAt 14 L a cd).cells h' D ys ∧ ys.size = 4 ∧ ∀ (i : Nat) r, ys[i]? = some r → ∃ t o y, r = .ref t ∧ Apart L (envAt 14 L a cd).cells t ∧ h'.get? t = some o ∧ l[i]? = some y ∧ IsRow lt y.1 o) (fun _ _ => False) s := by
  have hsize : (strValues l).toArray.size = 4 := by simp [strValues, h4]
  refine assign_comp_cell (fun i o => ∃ y, l[i]? = some y ∧ IsRow lt y.1 o) R.h F hcs14 rfl (cl := [("texts", L + 1 + 1 + 1 + 1 + 1)]) rfl rfl rfl (by decide) (fun _ _ => rfl) (fun _ => rfl) (fun _ _ => rfl) rfl (fun Q' E' hq => nmC F hw hq) hl.is (by rw [hsize, sizeLine_eq]; omega) ?_ ?_
  · intro i v C X s₃ hv hold hX htk3
    obtain ⟨y, hy, rfl⟩ := strValues_get hv
    obtain ⟨gy, ey1, ey2⟩ := hg y (List.mem_of_getElem? hy)
    have F3 := F.kept hold
    have c1 := F3.cell "texts" _ rfl
    rw [ht] at c1
    refine comp_bools (takes y.1) R.h (cl := [("word", X)]) rfl (by decide) rfl (by decide) rfl (fun Q' E' hq => wpAny_Name (wpAny_loadName_cell rfl rfl rfl c1 hq) rfl) (hlt.is.at fun o e => hold _ o e) h12 ?_ ?_
    · intro C2 z s₄ m₄ E' hz hn hm hk htk4
      have F4 := F3.kept hk
      have hyl := gy.1
      refine callF2 7 (T.keeps F4.keep) (by decide) h7 ?_
      refine Call_method2 rfl rfl rfl (wpAny_Name (wpAny_loadName_cell rfl rfl rfl (hX.keeps hk) ?_) rfl)
      refine methS2 PySem.F.slot_str_replace PySem.F.type_str_replace (wpAny_Constant_str ?_)
      refine wpAny_Constant_str ?_
      refine SC.replace (show @Ne Nat _ _ by omega) (show @Ne Nat _ _ by dsimp only; omega) (show @Ne Nat _ _ by dsimp only; omega) (by decide) ?_ (fun t' k' => ?_)
      · show y.1.length + (y.1.length + 1) * 3 ≤ _
        omega
      refine wpAny_Name (wpAny_loadName_local rfl rfl hn hm ?_) rfl
      refine ⟨fun _ _ e => e, ?_⟩
      refine wpAny_mono (ell_call (R.mono (by omega)) (T.keeps F4.keep) h7 ey1 (hlen z hz) ey2) (fun r s₅ hr => ?_) fun _ _ e => e
      obtain ⟨rfl, h5, tk5, rfl, K5⟩ := hr
      exact ⟨rfl, h5, tk5, rfl, K5⟩
    · intro D' h' tk hD' hl' K'
      obtain ⟨o, ho, hc, n, hd⟩ := hl'
      exact ⟨⟨D', o, rfl, hD', ho, y, hy, hc, n, hd⟩, h', tk, rfl, K'⟩
  · intro D h' tk ys hD hlD hys hG F' hk
    refine ⟨rfl, h', tk, _, cm, rfl, F', fun b o h1 _ e => hk b o h1 e, rfl, D, ys, rfl, ⟨F.apartNew hcs14 hD, hlD⟩, by rw [hys, hsize], fun i r hr => ?_⟩
    obtain ⟨t, o, rfl, ht0, ht1, y, hy, hrow⟩ := hG i r hr
    exact ⟨t, o, y, rfl, F.apartNew hcs14 ht0, ht1, hy, hrow⟩
end
end Mine
end

section
open PySem PySem.W PyProof.Rows
namespace Mine
open PySem.Calls Builtin Builtin.Str

theorem plain_bools (g : Str → Bool) (lt : List (Str × Tok)) : ∀ (i : Nat) v, (boolsOf g lt).toArray[i]? = some v → plainIs v v = true := by
  intro i v h
  have h' : (boolsOf g lt)[i]? = some v := by simpa using h
  unfold boolsOf at h'
  rw [List.getElem?_map] at h'
  cases hx : lt[i]? with
  | none => rw [hx] at h'; cases h'
  | some x => rw [hx] at h'; obtain rfl := Option.some.inj h'; rfl

/-- told as it lies -/
structure Told (L : Addr) (cs : List (Str × Addr)) (h : Heap) (l lt : List (Str × Tok)) (D : Addr) (ys : Array Value) : Prop where
  lis : Lis L cs h D ys
  size : ys.size = 4
  row : ∀ (i : Nat) r, ys[i]? = some r → ∃ t o y, r = .ref t ∧ Apart L cs t ∧ h.get? t = some o ∧ l[i]? = some y ∧ IsRow lt y.1 o
theorem Told.hold {L : Addr} {cs : List (Str × Addr)} {g h : Heap} {l lt : List (Str × Tok)} {D : Addr} {ys : Array Value} (x : Told L cs g l lt D ys) (y : Hold L cs g h) : Told L cs h l lt D ys :=
  ⟨x.lis.hold y, x.size, fun i r hr => let ⟨t, o, z, e1, e2, e3, e4, e5⟩ := x.row i r hr; ⟨t, o, z, e1, e2, y.get e2 e3, e4, e5⟩⟩
theorem Told.at {L : Addr} {cs : List (Str × Addr)} {h : Heap} {l lt : List (Str × Tok)} {D : Addr} {ys : Array Value} (x : Told L cs h l lt D ys) {i : Nat} (hi : i < 4) :
    ∃ t y, ys[i]? = some (.ref t) ∧ Apart L cs t ∧ l[i]? = some y ∧ h.IsList t (boolsOf (takes y.1) lt).toArray := by
  have hlt : i < ys.size := by rw [x.size]; exact hi
  obtain ⟨t, o, y, e1, e2, e3, e4, e5, n, e6⟩ := x.row i ys[i] (by simp [hlt])
  exact ⟨t, y, by rw [← e1]; simp [hlt], e2, e4, o, e3, e5, n, e6⟩

theorem rangeIterN {prog : Program} {w : World} {A : Around} {E : Value → Shared → Prop} {s : Shared} {n : Nat} {t : Tok} {Q : Value → Shared → Prop} (hn : n < 2 ^ 62)
    (h : ∀ h' tk I, Stays s.heap h' → s.heap.objs.size ≤ I → IsRangeIter h' I 0 n 1 → Q (.ref I) { s with heap := h', toks := tk }) :
    wpAny (model prog w) A (call (.type "range") [.int (n : Int) t]) (fun xv s₁ => wpAny (model prog w) A (pyIter xv) Q E s₁) E s := by
  refine call_range_1 ?_
  refine wpAny_pyIter_range (IsRange.new _ _ _ _ _ _ _) (small_one (by omega) (by omega) (by omega) (by omega)) ?_
  refine h _ _ _ (fun b o e => Heap.get?_push_of_some _ (Heap.get?_push_of_some _ e)) ?_ ?_
  · show _ ≤ (Heap.push _ _).objs.size
    rw [Heap.size_push]; exact Nat.le_succ _
  · have : Builtin.Range.rangeSize 0 (n : Int) 1 = (n : Int) := by rw [rangeSize_one]; split <;> omega
    rw [this]
    exact Heap.get?_push_size _ rfl

def lawBody6 : List Stmt := match lawStmt 6 with | .For _ _ b _ _ => b | _ => []

section
variable {prog : Program} {w : World} {A : Around} {s : Shared} {mg mb : Str → Option Value} {h₀ : Heap} {L a : Addr} {cd : Value} {m cm : Str → Option Value}

set_option maxHeartbeats 4000000 in
theorem law_6_turn {Dw Dt Do a11 a12 : Addr} {l lt : List (Str × Tok)} {ys : Array Value} {i : Nat} {ti : Tok} (R : Rm A 2) (T : Wd mg mb h₀) (h11 : mg (defAt 11).name = some (.ref a11)) (h12 : mg (defAt 12).name = some (.ref a12))
    (F : Fm h₀ L m (envAt 14 L a cd).cells cm s.heap) (hi : i < 4) (hci : cm "i" = some (.int (i : Int) ti))
    (hw : cm "words" = some (.ref Dw)) (hl : Lis L (envAt 14 L a cd).cells s.heap Dw (strValues l).toArray) (h4 : l.length = 4)
    (ht : cm "texts" = some (.ref Dt)) (hlt : Lis L (envAt 14 L a cd).cells s.heap Dt (strValues lt).toArray) (hn12 : lt.length ≤ 1000) (hlen : ∀ y ∈ lt, y.1.length ≤ 1000)
    (ho : m "told" = some (.ref Do)) (hT : Told L (envAt 14 L a cd).cells s.heap l lt Do ys) (heq : ∀ y ∈ l, ∀ z ∈ lt, takes y.1 z.1 = readsV y.1 z.1) :
    wpAny (model prog w) A (execs lawBody6 (envAt 14 L a cd)) (fun f s' => f = .next ∧ Keeps s s') (fun _ _ => False) s := by
  obtain ⟨t, y, hyt, hat, hyl, hrow⟩ := hT.at hi
  have hx : ys[(i : Int).toNat]? = some (.ref t) := by simpa using hyt
  refine wpAny_execs_cons (wpAny_If (wpAny_isTrue_Not (wpAny_isTrue_value ?_)))
  refine callF2 12 (T.keeps F.keep) (by decide) h12 ?_
  refine Subscript_ (nmL F ho (nmC F hci ?_))
  refine itemL hT.lis.is (by omega) (by omega) hx ?_
  refine comp_bools (readsV y.1) R.h (cl := [("words", L + 1 + 1 + 1), ("i", L + 1 + 1 + 1 + 1 + 1 + 1)]) rfl (by decide) rfl (by decide) rfl (fun Q' E' hq => nmC F ht hq) hlt.is hn12 ?_ ?_
  · intro C z s₃ m₃ E' hz hn hm hk htk
    have F3 := F.kept hk
    have c1 := F3.cell "words" _ rfl
    have c2 := F3.cell "i" _ rfl
    rw [hw] at c1
    rw [hci] at c2
    refine callF2 11 (T.keeps F3.keep) (by decide) h11 ?_
    refine Subscript_ (wpAny_Name (wpAny_loadName_cell rfl rfl rfl c1 (wpAny_Name (wpAny_loadName_cell rfl rfl rfl c2 ?_) rfl)) rfl)
    refine itemL (v := .str y.1 y.2) (hl.is.at fun o e => hk _ o e) (by omega) (by omega) ?_ ?_
    · have : ((i : Int)).toNat = i := by omega
      rw [this]; simp [strValues, hyl]
    refine wpAny_Name (wpAny_loadName_local rfl rfl hn hm ?_) rfl
    refine ⟨fun _ _ e => e, ?_⟩
    exact reads_call (R.mono (by omega)) (T.keeps F3.keep) h11 (hlen z hz)
  · intro D' h' tk hD' hl' K'
    refine ⟨K', ?_⟩
    have e : boolsOf (readsV y.1) lt = boolsOf (takes y.1) lt := by
      unfold boolsOf
      refine List.map_congr_left fun z hz => ?_
      rw [heq y (List.mem_of_getElem? hyl) z hz]
    rw [e] at hl'
    have hsz : (boolsOf (takes y.1) lt).toArray.size ≤ 1000 := by simp [boolsOf]; exact hn12
    refine wpAny_mono (same_call (R.mono (by omega)) (T.keeps (F.kept K').keep) h12 (hrow.at fun o e => K' _ o e) hl' hsz (plain_bools _ _)) (fun r s₄ hr => ?_) fun _ _ e => e
    obtain ⟨rfl, h4, tk4, rfl, K4⟩ := hr
    refine wpAny_truthy_bool (ifF (by decide) ?_)
    refine wpAny_execs_nil (wpAny_execs_nil ?_)
    exact ⟨rfl, h4, tk4, rfl, fun b o e => K4 b o (K' b o e)⟩

set_option maxHeartbeats 4000000 in
theorem law_6 {Dw Dt Do a11 a12 : Addr} {l lt : List (Str × Tok)} {ys : Array Value} (R : Rm A 2) (T : Wd mg mb h₀) (h11 : mg (defAt 11).name = some (.ref a11)) (h12 : mg (defAt 12).name = some (.ref a12))
    (F : Fm h₀ L m (envAt 14 L a cd).cells cm s.heap)
    (hw : cm "words" = some (.ref Dw)) (hl : Lis L (envAt 14 L a cd).cells s.heap Dw (strValues l).toArray) (h4 : l.length = 4)
    (ht : cm "texts" = some (.ref Dt)) (hlt : Lis L (envAt 14 L a cd).cells s.heap Dt (strValues lt).toArray) (hn12 : lt.length ≤ 1000) (hlen : ∀ y ∈ lt, y.1.length ≤ 1000)
    (ho : m "told" = some (.ref Do)) (hT : Told L (envAt 14 L a cd).cells s.heap l lt Do ys) (heq : ∀ y ∈ l, ∀ z ∈ lt, takes y.1 z.1 = readsV y.1 z.1) :
    wpAny (model prog w) A (exec (lawStmt 6) (envAt 14 L a cd)) (Next h₀ L a cd s fun _ m' cm' h' => m' = m) (fun _ _ => False) s := by
  refine wpAny_For ?_
  refine callT1 (T.keeps F.keep) b_range (wpAny_Constant_int ?_)
  refine rangeIterN (n := 4) (by decide) fun h2 tk2 I K2 hI1 hI2 => ?_
  have hIA : Apart L (envAt 14 L a cd).cells I := F.apartNew hcs14 (get_none_of_le hI1)
  have hLI : L < I := Nat.lt_of_lt_of_le F.lt hI1
  have hcI : ∀ n c, (n, c) ∈ (envAt 14 L a cd).cells → c ≠ I := hIA.2
  have hII : ∀ b o, s.heap.get? b = some o → b ≠ I := fun b o e => Nat.ne_of_lt (Nat.lt_of_lt_of_le (Heap.lt_size e) hI1)
  refine forWalk (walksLt (Walks.range R.h I 0 1 4))
    (fun i s' => ∃ h' tk cm', s' = { s with heap := h', toks := tk } ∧ Fm h₀ L m (envAt 14 L a cd).cells cm' h' ∧ Hold L (envAt 14 L a cd).cells s.heap h' ∧ IsRangeIter h' I (0 + (i : Nat) * 1) ((4 : Nat) - (i : Nat)) 1 ∧ ∀ n : Str, n ≠ "i" → cm' n = cm n) ?_ ?_ ?_ ?_
  · exact ⟨h2, tk2, cm, rfl, F.kept K2, Hold.stays K2, by simpa using hI2, fun _ _ => rfl⟩
  · rintro i s' ⟨h', tk, cm', rfl, _, _, h1, _⟩
    exact h1
  · rintro i v s' h3 tk3 hin ⟨h', tk, cm', rfl, F', H', hit, hcm⟩ ⟨_, ti, rfl⟩ hst hk
    have hk' : ∀ b o, b ≠ I → h'.get? b = some o → h3.get? b = some o := fun b o hb e => hk b o (by simpa using hb) e
    have F3 : Fm h₀ L m (envAt 14 L a cd).cells cm' h3 := F'.ext (a := I) hk' hLI hcI
    have H3 : Hold L (envAt 14 L a cd).cells s.heap h3 := fun b o h1 h2 e => hk' b o (hII b o e) (H' b o h1 h2 e)
    refine stC F3 fun h5 F5 S5 => ?_
    have H5 : Hold L (envAt 14 L a cd).cells h3 h5 := Hold.cel (n := "i") S5 (mem_of_lookup rfl)
    have H := H3.trans H5
    have e0 : ((0 : Int) + (i : Nat) * 1) = (i : Int) := by omega
    refine wpAny_mono (law_6_turn (i := i) (ti := ti) R T h11 h12 F5 hin (by show some (Value.int ((0 : Int) + (i : Nat) * 1) ti) = some (Value.int (i : Int) ti); rw [e0]) ((hcm "words" (by decide)).trans hw) (hl.hold H) h4 ((hcm "texts" (by decide)).trans ht) (hlt.hold H) hn12 hlen ho (hT.hold H) heq) (fun f s' hf => ?_) fun _ _ e => e
    obtain ⟨rfl, h6, tk6, rfl, K6⟩ := hf
    refine ⟨h6, tk6, _, rfl, F5.kept K6, H.trans (Hold.stays K6), K6 _ _ ((S5.2 I (Ne.symm (hcI "i" _ (mem_of_lookup rfl)))).trans hst), fun n hn => (if_neg hn).trans (hcm n hn)⟩
  · rintro s' h3 tk3 ⟨h', tk, cm', rfl, F', H', hit, hcm⟩ hk
    have hk' : ∀ b o, b ≠ I → h'.get? b = some o → h3.get? b = some o := fun b o hb e => hk b o (by simpa using hb) e
    exact ⟨rfl, h3, tk3, m, cm', rfl, F'.ext (a := I) hk' hLI hcI, fun b o h1 h2 e => hk' b o (hII b o e) (H' b o h1 h2 e), rfl⟩
end
end Mine
end

section
open PySem PySem.W PyProof.Rows
namespace Mine
open PySem.Calls Builtin Builtin.Str

theorem paired_filter {p : Value → Bool} {q : Nat → Bool} (hpq : ∀ (k : Nat) t, p (.int (k : Int) t) = q k) : ∀ {vs : List Value} {ps : List Nat} {ys : List Value}, IntsAre vs (natInts ps) →
    Paired (fun v y => y = v) (vs.filter p) ys → IntsAre ys (natInts (ps.filter q))
  | [], [], ys, _, h => by
    have h' : Paired (fun v y => y = v) ([] : List Value) ys := h
    cases h'
    exact .nil
  | _, k :: ps, ys, .cons _ t' hr, h => by
    rw [List.filter_cons]
    by_cases hc : q k = true
    · rw [if_pos hc]
      rw [List.filter_cons, if_pos ((hpq k t').trans hc)] at h
      cases h with
      | cons h1 h2 =>
        subst h1
        exact .cons _ _ (paired_filter hpq hr h2)
    · rw [if_neg hc]
      rw [List.filter_cons, if_neg (by rw [hpq]; exact hc)] at h
      exact paired_filter hpq hr h

theorem firstMet_nodup {ns : List Int} (hn : ns.Nodup) : ∀ i, i ≤ ns.length → firstMet (fun i => ns.getD i 0) i = ns.take i
  | 0, _ => by rw [firstMet_zero]; simp
  | i + 1, h => by
    rw [firstMet_succ, firstMet_nodup hn i (by omega)]
    have hlt : i < ns.length := by omega
    have e1 : ns.getD i 0 = ns[i] := by simp [List.getD_eq_getElem?_getD, hlt]
    unfold step_dedup
    rw [e1, if_neg]
    · rw [List.take_add_one, List.getElem?_eq_getElem hlt]; rfl
    · intro hc
      obtain ⟨x, hx, hxe⟩ := List.any_eq_true.mp hc
      have hxe' : x = ns[i] := by simpa using hxe
      obtain ⟨j, hj, rfl⟩ := List.mem_take_iff_getElem.mp hx
      have hj' : j < i := by omega
      exact absurd hxe' (List.pairwise_iff_getElem.mp hn j i (by omega) hlt hj')

/-- which of the texts a word takes -/
def hits (lt : List (Str × Tok)) (x : Str) : List Nat := (List.range 12).filter fun k => takes x ((lt.map (·.1)).getD k Str.empty)
def inHits (lt : List (Str × Tok)) (x : Str) (k : Int) : Bool := (natInts (hits lt x)).any (· == k)

theorem nodup_natInts {l : List Nat} (h : l.Nodup) : (natInts l).Nodup := by
  unfold natInts
  exact List.Pairwise.map _ (fun a b hab e => hab (by omega)) h

def IsTaken (prog : Program) (w : World) (lt : List (Str × Tok)) (x : Str) (o : Obj) : Prop := o.SetObjOf (intKind prog w) (inHits lt x) (hits lt x).length

section
variable {prog : Program} {w : World} {A : Around} {s : Shared} {mg mb : Str → Option Value} {h₀ : Heap} {L a : Addr} {cd : Value} {m cm : Str → Option Value}

set_option maxHeartbeats 4000000 in
theorem law_7 {Do : Addr} {l lt : List (Str × Tok)} {ys : Array Value} (R : Rm A 2) (T : Wd mg mb h₀) (F : Fm h₀ L m (envAt 14 L a cd).cells cm s.heap)
    (h12 : lt.length = 12) (ho : m "told" = some (.ref Do)) (hT : Told L (envAt 14 L a cd).cells s.heap l lt Do ys) :
    wpAny (model prog w) A (exec (lawStmt 7) (envAt 14 L a cd)) (Next h₀ L a cd s fun tk m' cm' h' => (∀ n : Str, n ≠ "taken" → m' n = m n) ∧
      ∃ D zs, m' "taken" = some (.ref D) ∧ Lis L (envAt 14 L a cd).cells h' D zs ∧ zs.size = 4 ∧ ∀ (i : Nat) r, zs[i]? = some r → ∃ t o y, r = .ref t ∧ Apart L (envAt 14 L a cd).cells t ∧ h'.get? t = some o ∧ l[i]? = some y ∧ IsTaken prog w lt y.1 o) (fun _ _ => False) s := by
  refine assign_comp_cell (fun i o => ∃ y, l[i]? = some y ∧ IsTaken prog w lt y.1 o) R.h F hcs14 rfl (cl := []) rfl rfl rfl (by decide) (fun _ _ => rfl) (fun _ => rfl) (fun _ _ => rfl) rfl (fun Q' E' hq => nmL F ho hq) hT.lis.is (by rw [hT.size, sizeLine_eq]; omega) ?_ ?_
  · intro i v C X s₃ hv hold hX htk3
    have hi4 : i < 4 := by have := (Array.getElem?_eq_some_iff.mp hv).1; rw [hT.size] at this; exact this
    obtain ⟨t, y, hyt, hat, hyl, hrow⟩ := hT.at hi4
    rw [hyt] at hv
    obtain rfl := Option.some.inj hv
    have F3 := F.kept hold
    have T3 := T.keeps F3.keep
    have hrow3 : s₃.heap.IsList t (boolsOf (takes y.1) lt).toArray := hrow.at fun o e => hold _ o e
    refine callT1 T3 b_set ?_
    refine wpAny_ListComp_free (fun v => match v with | .int k _ => takes y.1 ((lt.map (·.1)).getD k.toNat Str.empty) | _ => false) (fun v z => z = v) (cl := [("row", X)]) rfl (by decide) rfl (by decide) rfl ?_
    refine callT1 T3 b_range (wpAny_Constant_int ?_)
    refine rangeIter1 (n := 12) (by decide) fun h2 tk2 I K2 hI0 hI1 hI2 => ?_
    have hII : ∀ b o, s₃.heap.get? b = some o → b ∉ [I] := fun b o e hm => by
      have : b = I := by simpa using hm
      subst this
      have e' : s₃.heap.get? b = none := hI0
      rw [e'] at e; cases e
    refine ⟨I, [I], [I], 12, _, _, rfl, walksLt (Walks.range R.h I 0 1 12), by decide, by simpa using hI2, by simpa using hI1, ⟨?_, ?_⟩, ?_⟩
    · intro C2 k v s₄ m₄ E' hC hP hn hm hk4 htk4
      obtain ⟨hk12, tk', rfl⟩ := hP
      have old : Stays s₃.heap s₄.heap := fun b o e => hk4 b o (hII b o e) (K2 b o e)
      refine wpAny_tests_one (wpAny_isTrue_value ?_)
      refine Subscript_ (wpAny_Name (wpAny_loadName_cell rfl rfl rfl (hX.keeps old) (wpAny_Name (wpAny_loadName_local rfl rfl hn hm ?_) rfl)) rfl)
      have e0 : ((0 : Int) + (k : Nat) * 1).toNat = k := by omega
      refine itemL (v := .bool (takes y.1 ((lt.map (·.1)).getD k Str.empty))) (hrow3.at fun o e => old _ o e) (by omega) (by omega) ?_ ?_
      · rw [e0]
        have hlt : k < lt.length := by omega
        simp [boolsOf, hlt]
      · refine wpAny_truthy_bool ⟨?_, _, _, rfl, fun _ _ e => e⟩
        show _ = takes y.1 ((lt.map (·.1)).getD ((0 : Int) + (k : Nat) * 1).toNat Str.empty)
        rw [e0]
    · intro C2 k v s₄ m₄ E' hC hP _ hn hm hk4 htk4
      exact wpAny_Name (wpAny_loadName_local rfl rfl hn hm ⟨rfl, _, _, rfl, fun _ _ e => e⟩) rfl
    · intro D' h' tk zs vs hnew hl' hpl hlen hP hF hk
      have old : Stays s₃.heap h' := fun b o e => hk b o (hII b o e) (K2 b o e)
      have hvs : IntsAre vs (natInts (List.range 12)) := by
        refine intsAre_of _ _ (by simp [natInts, hlen]) fun j v hj => ?_
        obtain ⟨hj12, tj, rfl⟩ := hP j v hj
        refine ⟨tj, _, rfl, ?_⟩
        unfold natInts
        rw [List.getElem?_map, List.getElem?_range hj12]
        simp
      have hzs : IntsAre zs.toList (natInts (hits lt y.1)) := paired_filter (fun k t => by simp) hvs hF
      have hnd : (natInts (hits lt y.1)).Nodup := nodup_natInts (List.Pairwise.filter _ List.nodup_range)
      have hzl : zs.size = (natInts (hits lt y.1)).length := by rw [← hzs.length]; simp
      have hle : (natInts (hits lt y.1)).length ≤ 12 := by
        unfold natInts hits
        rw [List.length_map]
        exact Nat.le_trans (List.length_filter_le _ _) (by simp)
      refine PySem.call_set_list R.h hl' hzs (by rw [hzl]; unfold scanBound; omega) ?_
      intro h5 tk5 hS K5
      have hS' : h5.SetOf (intKind prog w) h'.objs.size (inHits lt y.1) (hits lt y.1).length := by
        refine SetOf_congr hS (fun k => ?_) ?_
        · rw [hzl, firstMet_nodup hnd _ (Nat.le_refl _), List.take_length]; rfl
        · rw [hzl, firstMet_nodup hnd _ (Nat.le_refl _), List.take_length]; simp [natInts]
      obtain ⟨o, ho5, hobj⟩ := hS'.objOf
      refine ⟨⟨_, o, rfl, ?_, ho5, y, hyl, hobj⟩, h5, tk5, rfl, fun b o e => K5 b o (Heap.lt_size (old b o e)) (old b o e)⟩
      cases e : s₃.heap.get? h'.objs.size with
      | none => rfl
      | some o' => exact absurd (Heap.lt_size (old _ _ e)) (Nat.lt_irrefl _)
  · intro D h' tk zs hD hlD hzs hG F' hk
    refine ⟨rfl, h', tk, _, cm, rfl, F', fun b o h1 _ e => hk b o h1 e, fun n hn => if_neg hn, D, zs, rfl, ⟨F.apartNew hcs14 hD, hlD⟩, by rw [hzs, hT.size], fun i r hr => ?_⟩
    obtain ⟨t, o, rfl, ht0, ht1, y, hy, hrow⟩ := hG i r hr
    exact ⟨t, o, y, rfl, F.apartNew hcs14 ht0, ht1, hy, hrow⟩
end
end Mine
end

section
open PySem PySem.W PyProof.Rows
namespace Mine
open PySem.Calls Builtin Builtin.Str

section
variable {prog : Program} {w : World} {A : Around} {E : Value → Shared → Prop} {s : Shared} {Q : Value → Shared → Prop}
theorem mul4 {l : Addr} {v : Value} {u : Tok} (hl : s.heap.IsList l [v].toArray)
    (h : ∀ h' D, Stays s.heap h' → s.heap.get? D = none → h'.IsList D [v, v, v, v].toArray → Q (.ref D) { s with heap := h' }) :
    wpAny (model prog w) A (binaryOp .Mult (.ref l) (.int 4 u)) Q E s := by
  obtain ⟨⟨cls, d, data, sl⟩, ho, hcl, k, hd⟩ := hl
  simp only at hcl hd
  subst hcl hd
  refine wpAny_binaryOp_repeat_ref (T := "list") (U := "int") (by decide) ⟨_, ho, rfl⟩ (fun s' => typeIs_int s' 4 u) noFill_list_mul PySem.F.fills_int_mul PySem.F.slot_int_rmul repeat_list PySem.F.slot_int_index.lookup
    (call_meets PySem.F.slot_int_rmul (typeIs_int s 4 u) PySem.F.entry_int_rmul (PySem.F.args_int_rmul_2 _ _) (lm_int_rmul_list_any 4 u l [v].toArray k d sl)
      ⟨ho, rfl, ⟨_, ho, rfl⟩, call_meets PySem.F.slot_list_mul ⟨_, ho, rfl⟩ PySem.F.entry_list_mul (PySem.F.args_list_mul_2 _ _)
        (lm_list_mul_any l [v].toArray k d sl 4 u (by decide) (by simp) (by simp [Builtin.List.listTooLong, sizeLine]))
        ⟨ho, ?_⟩⟩)
  exact h _ _ (fun _ _ e => Heap.get?_push_of_some _ e) (get_none_of_le (Nat.le_refl _)) ⟨_, Heap.get?_push_size _ rfl, rfl, _, rfl⟩
end

/-- taken as it lies -/
structure Taken (prog : Program) (w : World) (L : Addr) (cs : List (Str × Addr)) (h : Heap) (l lt : List (Str × Tok)) (D : Addr) (zs : Array Value) : Prop where
  lis : Lis L cs h D zs
  size : zs.size = 4
  row : ∀ (i : Nat) r, zs[i]? = some r → ∃ t o y, r = .ref t ∧ Apart L cs t ∧ h.get? t = some o ∧ l[i]? = some y ∧ IsTaken prog w lt y.1 o
theorem hits_small (lt : List (Str × Tok)) (x : Str) : (hits lt x).length < scanBound := by
  have : (hits lt x).length ≤ 12 := Nat.le_trans (List.length_filter_le _ _) (by simp)
  unfold scanBound; omega
section
variable {prog : Program} {w : World} {L : Addr} {cs : List (Str × Addr)} {g h : Heap} {l lt : List (Str × Tok)} {D : Addr} {zs : Array Value}
theorem Taken.hold (x : Taken prog w L cs g l lt D zs) (y : Hold L cs g h) : Taken prog w L cs h l lt D zs :=
  ⟨x.lis.hold y, x.size, fun i r hr => let ⟨t, o, z, e1, e2, e3, e4, e5⟩ := x.row i r hr; ⟨t, o, z, e1, e2, y.get e2 e3, e4, e5⟩⟩
theorem Taken.at (x : Taken prog w L cs h l lt D zs) {i : Nat} (hi : i < 4) :
    ∃ t y, zs[i]? = some (.ref t) ∧ l[i]? = some y ∧ ∀ h', Hold L cs h h' → h'.SetOf (intKind prog w) t (inHits lt y.1) (hits lt y.1).length := by
  have hlt : i < zs.size := by rw [x.size]; exact hi
  obtain ⟨t, o, y, e1, e2, e3, e4, e5⟩ := x.row i zs[i] (by simp [hlt])
  exact ⟨t, y, by rw [← e1]; simp [hlt], e4, fun h' H => e5.setOf (H.get e2 e3) (hits_small lt y.1)⟩
end

theorem inHits_iff {lt : List (Str × Tok)} {x : Str} {k : Int} : inHits lt x k = true ↔ ∃ j : Nat, j ∈ hits lt x ∧ k = (j : Int) := by
  unfold inHits natInts
  rw [List.any_eq_true]
  constructor
  · rintro ⟨y, hy, hk⟩
    obtain ⟨j, hj, rfl⟩ := List.mem_map.mp hy
    exact ⟨j, hj, by have : ((j : Int)) = k := by simpa using hk
                     exact this.symm⟩
  · rintro ⟨j, hj, rfl⟩
    exact ⟨_, List.mem_map.mpr ⟨j, hj, rfl⟩, by simp⟩

theorem sub_iff {lt : List (Str × Tok)} {x y : Str} : (∀ k, inHits lt x k = true → inHits lt y k = true) ↔ ∀ j, j < 12 → takes x ((lt.map (·.1)).getD j Str.empty) = true → takes y ((lt.map (·.1)).getD j Str.empty) = true := by
  have hm : ∀ z j, j ∈ hits lt z ↔ j < 12 ∧ takes z ((lt.map (·.1)).getD j Str.empty) = true := fun z j => by
    unfold hits; rw [List.mem_filter, List.mem_range]
  constructor
  · intro h j hj hx
    obtain ⟨j', hj', e⟩ := inHits_iff.mp (h j (inHits_iff.mpr ⟨j, (hm x j).mpr ⟨hj, hx⟩, rfl⟩))
    have : j' = j := by omega
    subst this
    exact ((hm y j').mp hj').2
  · intro h k hk
    obtain ⟨j, hj, rfl⟩ := inHits_iff.mp hk
    obtain ⟨h1, h2⟩ := (hm x j).mp hj
    exact inHits_iff.mpr ⟨j, (hm y j).mpr ⟨h1, h j h1 h2⟩, rfl⟩

theorem len_mono {p q : Nat → Bool} (l : List Nat) (h : ∀ j ∈ l, p j = true → q j = true) : (l.filter p).length ≤ (l.filter q).length := by
  rw [← List.countP_eq_length_filter, ← List.countP_eq_length_filter]
  exact List.countP_mono_left h
theorem len_eq {p q : Nat → Bool} : ∀ (l : List Nat), (∀ j ∈ l, p j = true → q j = true) → (l.filter p).length = (l.filter q).length → ∀ j ∈ l, q j = true → p j = true
  | [], _, _ => fun j hj => nomatch hj
  | a :: l, h, e => by
    have hm := len_mono l fun j hj => h j (List.mem_cons_of_mem _ hj)
    have ha := h a List.mem_cons_self
    intro j hj hq
    rw [List.filter_cons, List.filter_cons] at e
    cases hp : p a with
    | true =>
      rw [hp, ha hp] at e
      simp only [if_true, List.length_cons] at e
      rcases List.mem_cons.mp hj with rfl | hj
      · exact hp
      · exact len_eq l (fun j hj => h j (List.mem_cons_of_mem _ hj)) (by omega) j hj hq
    | false =>
      cases hqa : q a with
      | true =>
        rw [hp, hqa] at e
        simp only [Bool.false_eq_true, if_false, if_true, List.length_cons] at e
        omega
      | false =>
        rw [hp, hqa] at e
        simp only [Bool.false_eq_true, if_false] at e
        rcases List.mem_cons.mp hj with rfl | hj
        · rw [hqa] at hq; cases hq
        · exact len_eq l (fun j hj => h j (List.mem_cons_of_mem _ hj)) e j hj hq

theorem sub_len {lt : List (Str × Tok)} {x y : Str} (h : ∀ k, inHits lt x k = true → inHits lt y k = true) : (hits lt x).length ≤ (hits lt y).length ∧
    ((hits lt x).length = (hits lt y).length → ∀ k, inHits lt y k = true → inHits lt x k = true) := by
  rw [sub_iff] at h
  refine ⟨len_mono _ fun j hj => h j (List.mem_range.mp hj), fun e => ?_⟩
  rw [sub_iff]
  have := len_eq (List.range 12) (fun j hj => h j (List.mem_range.mp hj)) e
  exact fun j hj => this j (List.mem_range.mpr hj)

section
variable {prog : Program} {w : World} {A : Around} {E : Value → Shared → Prop} {s : Shared} {env : Env} {h₀ : Heap} {m cm : Str → Option Value} {Q : Value → Shared → Prop}
theorem andNot {n1 n2 : Str} {p1 p2 p3 p4 : Pos} {W O : Bool} (F : Fm h₀ env.locals m env.cells cm s.heap) (h1 : m n1 = some (.bool W)) (h2 : m n2 = some (.bool O)) (h : Q (.bool (W && !O)) s)
    (hk : env.scope.kind = .function := by rfl) (hl1 : env.kindOf n1 = some .local := by rfl) (hd1 : (n1 == ("__debug__" : Str)) = false := by rfl) (hl2 : env.kindOf n2 = some .local := by rfl) (hd2 : (n2 == ("__debug__" : Str)) = false := by rfl) :
    wpAny (model prog w) A (eval (.BoolOp .And [.Name n1 p1, .UnaryOp .Not (.Name n2 p2) p3] p4) env) Q E s := by
  refine wpAny_And2 (nmL F h1 (wpAny_truthy_bool ?_) hk hl1 hd1)
  cases W with
  | false => exact h
  | true => exact wpAny_UnaryOp (nmL F h2 (not_value (wpAny_truthy_bool h)) hk hl2 hd2)
end

/-- the four answers, told by the sizes and by who lies in whom, are the four that are due -/
theorem four_due {n n' : Nat} {P P' : Prop} {W O : Bool} (hW : W = true ↔ P) (hO : O = true ↔ P') (h1 : P → n ≤ n') (h2 : P' → n' ≤ n) (h3 : P → n = n' → P') (h4 : P' → n = n' → P) :
    (W = true ↔ ((n < n' ∧ P) ∨ (n = n' ∧ P))) ∧ ((W && !O) = true ↔ ((n ≤ n' ∧ P) ∧ ¬ (n = n' ∧ P))) ∧ (O = true ↔ ((n' < n ∧ P') ∨ (n = n' ∧ P))) ∧ ((O && !W) = true ↔ ((n' ≤ n ∧ P') ∧ ¬ (n = n' ∧ P))) := by
  by_cases p : P
  · have w : W = true := hW.mpr p
    have l1 := h1 p
    by_cases p' : P'
    · have o : O = true := hO.mpr p'
      have l2 := h2 p'
      have e : n = n' := by omega
      subst w o e
      simp [p, p']
    · have o : O = false := by
        cases O with
        | false => rfl
        | true => exact absurd (hO.mp rfl) p'
      have ne : n ≠ n' := fun e => p' (h3 p e)
      subst w o
      simp [p, p', ne]
      omega
  · have w : W = false := by
      cases W with
      | false => rfl
      | true => exact absurd (hW.mp rfl) p
    by_cases p' : P'
    · have o : O = true := hO.mpr p'
      have l2 := h2 p'
      have ne : n ≠ n' := fun e => p (h4 p' e)
      subst w o
      simp [p, p']
      omega
    · have o : O = false := by
        cases O with
        | false => rfl
        | true => exact absurd (hO.mp rfl) p'
      subst w o
      simp [p, p']

def lawBody8 : List Stmt := match lawStmt 8 with | .For _ _ b _ _ => b | _ => []
def lawInner8 : List Stmt := match lawBody8 with | [_, .For _ _ b _ _] => b | _ => []

section
variable {prog : Program} {w : World} {A : Around} {s : Shared} {mg mb : Str → Option Value} {h₀ : Heap} {L a : Addr} {cd : Value} {m cm : Str → Option Value}

/-- the defs that the comparisons lean on -/
structure Cmp (mg : Str → Option Value) (a1 a2 a3 a4 a12 a13 : Addr) : Prop where
  h1 : mg (defAt 1).name = some (.ref a1)
  h2 : mg (defAt 2).name = some (.ref a2)
  h3 : mg (defAt 3).name = some (.ref a3)
  h4 : mg (defAt 4).name = some (.ref a4)
  h12 : mg (defAt 12).name = some (.ref a12)
  h13 : mg (defAt 13).name = some (.ref a13)

set_option maxHeartbeats 4000000 in
theorem law_8_inner {Do Dk a1 a2 a3 a4 a12 a13 : Addr} {l lt : List (Str × Tok)} {ys zs : Array Value} {i j : Nat} {ti tj : Tok} (R : Rm A 3) (T : Wd mg mb h₀) (C : Cmp mg a1 a2 a3 a4 a12 a13)
    (F : Fm h₀ L m (envAt 14 L a cd).cells cm s.heap) (hi : i < 4) (hj : j < 4) (hci : cm "i" = some (.int (i : Int) ti)) (hmj : m "j" = some (.int (j : Int) tj)) (h12 : lt.length = 12)
    (ho : m "told" = some (.ref Do)) (hT : Told L (envAt 14 L a cd).cells s.heap l lt Do ys) (hk : m "taken" = some (.ref Dk)) (hK : Taken prog w L (envAt 14 L a cd).cells s.heap l lt Dk zs)
    (hlaw : ∀ (p q : Nat) x y, p < 4 → q < 4 → l[p]? = some x → l[q]? = some y → (takes y.1 ((lt.map (·.1)).getD p Str.empty) = true ↔ ∀ k, inHits lt x.1 k = true → inHits lt y.1 k = true)) :
    wpAny (model prog w) A (execs lawInner8 (envAt 14 L a cd)) (fun f s' => f = .next ∧ ∃ h' tk m', s' = { s with heap := h', toks := tk } ∧ Fm h₀ L m' (envAt 14 L a cd).cells cm h' ∧ (∀ b o, b ≠ L → s.heap.get? b = some o → h'.get? b = some o) ∧
      ∀ n : Str, n ≠ "within" → n ≠ "over" → m' n = m n) (fun _ _ => False) s := by
  obtain ⟨ri, xi, hri, hari, hxi, hrowi⟩ := hT.at hi
  obtain ⟨rj, xj, hrj, harj, hxj, hrowj⟩ := hT.at hj
  obtain ⟨si, xi', hsi, hxi', hSi⟩ := hK.at hi
  obtain ⟨sj, xj', hsj, hxj', hSj⟩ := hK.at hj
  rw [hxi] at hxi'; obtain rfl := Option.some.inj hxi'
  rw [hxj] at hxj'; obtain rfl := Option.some.inj hxj'
  have hW := hlaw i j xi xj hi hj hxi hxj
  have hO := hlaw j i xj xi hj hi hxj hxi
  have getb : ∀ (x : Str) (p : Nat), p < 4 → (boolsOf (takes x) lt).toArray[(p : Int).toNat]? = some (.bool (takes x ((lt.map (·.1)).getD p Str.empty))) := by
    intro x p hp
    have hlt : p < lt.length := by omega
    have : ((p : Int)).toNat = p := by omega
    rw [this]
    simp [boolsOf, hlt]
  have hi' : ys[(i : Int).toNat]? = some (.ref ri) := by simpa using hri
  have hj' : ys[(j : Int).toNat]? = some (.ref rj) := by simpa using hrj
  have hsi' : zs[(i : Int).toNat]? = some (.ref si) := by simpa using hsi
  have hsj' : zs[(j : Int).toNat]? = some (.ref sj) := by simpa using hsj
  generalize hWv : takes xj.1 ((lt.map (·.1)).getD i Str.empty) = W at hW
  generalize hOv : takes xi.1 ((lt.map (·.1)).getD j Str.empty) = O at hO
  -- within
  refine wpAny_execs_cons (wpAny_Assign_Name (Subscript_ (Subscript_ (nmL F ho (nmL F hmj ?_)))))
  refine itemL hT.lis.is (by omega) (by omega) hj' ?_
  refine nmC F hci ?_
  refine itemL hrowj (by omega) (by omega) ((getb xj.1 i hi).trans (by rw [hWv])) ?_
  refine stL F fun h2 F2 S2 => ?_
  have H2 : Hold L (envAt 14 L a cd).cells s.heap h2 := Hold.loc S2
  -- over
  refine wpAny_execs_cons (wpAny_Assign_Name (Subscript_ (Subscript_ (nmL F2 (by exact ho) (nmC F2 hci ?_)))))
  refine itemL (hT.hold H2).lis.is (by omega) (by omega) hi' ?_
  refine nmL F2 (by exact hmj) ?_
  refine itemL (hrowi.at fun o e => H2.get hari e) (by omega) (by omega) ((getb xi.1 j hj).trans (by rw [hOv])) ?_
  refine stL F2 fun h3 F3 S3 => ?_
  have H3 : Hold L (envAt 14 L a cd).cells s.heap h3 := H2.trans (Hold.loc S3)
  have T3 := T.keeps F3.keep
  have hS3i := hSi h3 H3
  have hS3j := hSj h3 H3
  obtain ⟨d1, d2, d3, d4⟩ := four_due (n := (hits lt xi.1).length) (n' := (hits lt xj.1).length) hW hO (fun p => (sub_len p).1) (fun p => (sub_len p).1) (fun p e => (sub_len p).2 e) (fun p e => (sub_len p).2 e.symm)
  refine wpAny_execs_cons (wpAny_If (wpAny_isTrue_Not (wpAny_isTrue_value ?_)))
  refine callF2 12 T3 (by decide) C.h12 ?_
  refine callF2 13 T3 (by decide) C.h13 ?_
  refine Subscript_ (nmL F3 (by exact hk) (nmC F3 hci ?_))
  refine itemL (hK.hold H3).lis.is (by omega) (by omega) hsi' ?_
  refine Subscript_ (nmL F3 (by exact hk) (nmL F3 (by exact hmj) ?_))
  refine itemL (hK.hold H3).lis.is (by omega) (by omega) hsj' ?_
  refine ⟨fun _ _ e => e, ?_⟩
  refine wpAny_mono (four_call (r1 := .bool W) (r2 := .bool (W && !O)) (r3 := .bool O) (r4 := .bool (O && !W)) (R.mono (by omega)) T3 C.h13 C.h1 C.h2 C.h3 C.h4
    (fun A' s' E' R' K' => call_1_sets R' (T3.keeps K') C.h1 (SetOf_keeps hS3i K') (SetOf_keeps hS3j K') d1)
    (fun A' s' E' R' K' => call_2_sets R' (T3.keeps K') C.h2 (SetOf_keeps hS3i K') (SetOf_keeps hS3j K') d2)
    (fun A' s' E' R' K' => call_3_sets R' (T3.keeps K') C.h3 (SetOf_keeps hS3i K') (SetOf_keeps hS3j K') d3)
    (fun A' s' E' R' K' => call_4_sets R' (T3.keeps K') C.h4 (SetOf_keeps hS3i K') (SetOf_keeps hS3j K') d4)) (fun r s₄ hr => ?_) fun _ _ e => e
  obtain ⟨D4, rfl, hD4, hl4, h4, tk4, rfl, K4⟩ := hr
  have F4 := F3.kept K4
  refine wpAny_List (wpAny_items_cons (nmL F4 rfl (wpAny_items_cons ?_)))
  refine andNot (W := W) (O := O) F4 rfl rfl ?_
  refine wpAny_items_cons (nmL F4 rfl (wpAny_items_cons ?_))
  refine andNot (W := O) (O := W) F4 rfl rfl ?_
  refine wpAny_items_nil ⟨by rw [sizeLine_eq]; simp, ?_⟩
  refine ⟨fun b o e => Heap.get?_push_of_some _ (K4 b o e), ?_⟩
  have K5 : Stays h₀ (h4.push { cls := .type "list", data := .seq [Value.bool W, .bool (W && !O), .bool O, .bool (O && !W)].toArray }) := fun b o e => Heap.get?_push_of_some _ (F4.keep b o e)
  refine wpAny_mono (same_call (items := [Value.bool W, .bool (W && !O), .bool O, .bool (O && !W)].toArray) (R.mono (by omega)) (T.keeps K5) C.h12 (hl4.push _) ⟨_, Heap.get?_push_size _ rfl, rfl, _, rfl⟩ (by simp) ?_) (fun r s₅ hr => ?_) fun _ _ e => e
  · intro p v hv
    have hv' : [Value.bool W, .bool (W && !O), .bool O, .bool (O && !W)][p]? = some v := by simpa using hv
    have hm := List.mem_of_getElem? hv'
    simp only [List.mem_cons, List.not_mem_nil, or_false] at hm
    rcases hm with rfl | rfl | rfl | rfl <;> rfl
  obtain ⟨rfl, h6, tk6, rfl, K6⟩ := hr
  refine wpAny_truthy_bool (ifF (by decide) ?_)
  refine wpAny_execs_nil (wpAny_execs_nil ?_)
  refine ⟨rfl, h6, tk6, _, rfl, (F4.push _).kept K6, fun b o hb e => K6 b o (Heap.get?_push_of_some _ (K4 b o ((S3.2 b hb).trans ((S2.2 b hb).trans e)))), fun n hn1 hn2 => ?_⟩
  show (if n = _ then _ else if n = _ then _ else m n) = m n
  rw [if_neg hn2, if_neg hn1]
end
end Mine
end

section
open PySem PySem.W PyProof.Rows
namespace Mine
open PySem.Calls Builtin Builtin.Str

def LawHyp (l lt : List (Str × Tok)) : Prop :=
  ∀ (p q : Nat) x y, p < 4 → q < 4 → l[p]? = some x → l[q]? = some y → (takes y.1 ((lt.map (·.1)).getD p Str.empty) = true ↔ ∀ k, inHits lt x.1 k = true → inHits lt y.1 k = true)

theorem Hold.ne {L : Addr} {cs : List (Str × Addr)} {g h : Heap} (x : ∀ b o, b ≠ L → g.get? b = some o → h.get? b = some o) : Hold L cs g h := fun b o h1 _ e => x b o h1 e

section
variable {prog : Program} {w : World} {A : Around} {s : Shared} {mg mb : Str → Option Value} {h₀ : Heap} {L a : Addr} {cd : Value} {m cm : Str → Option Value}

set_option maxHeartbeats 4000000 in
theorem law_8_turn {Do Dk a1 a2 a3 a4 a12 a13 : Addr} {l lt : List (Str × Tok)} {ys zs : Array Value} {i : Nat} {ti : Tok} (R : Rm A 3) (T : Wd mg mb h₀) (C : Cmp mg a1 a2 a3 a4 a12 a13)
    (F : Fm h₀ L m (envAt 14 L a cd).cells cm s.heap) (hi : i < 4) (hci : cm "i" = some (.int (i : Int) ti)) (h12 : lt.length = 12)
    (ho : m "told" = some (.ref Do)) (hT : Told L (envAt 14 L a cd).cells s.heap l lt Do ys) (hk : m "taken" = some (.ref Dk)) (hK : Taken prog w L (envAt 14 L a cd).cells s.heap l lt Dk zs) (hlaw : LawHyp l lt) :
    wpAny (model prog w) A (execs lawBody8 (envAt 14 L a cd)) (fun f s' => f = .next ∧ ∃ h' tk m', s' = { s with heap := h', toks := tk } ∧ Fm h₀ L m' (envAt 14 L a cd).cells cm h' ∧ (∀ b o, b ≠ L → s.heap.get? b = some o → h'.get? b = some o) ∧
      m' "told" = m "told" ∧ m' "taken" = m "taken") (fun _ _ => False) s := by
  obtain ⟨ri, xi, hri, hari, hxi, hrowi⟩ := hT.at hi
  obtain ⟨si, xi', hsi, hxi', hSi⟩ := hK.at hi
  have hS := hSi s.heap Hold.refl
  have T1 := T.keeps F.keep
  have hi' : ys[(i : Int).toNat]? = some (.ref ri) := by simpa using hri
  have hsi' : zs[(i : Int).toNat]? = some (.ref si) := by simpa using hsi
  refine wpAny_execs_cons (wpAny_If (wpAny_isTrue_Not (wpAny_isTrue_value ?_)))
  refine callF2 12 T1 (by decide) C.h12 ?_
  refine callF2 13 T1 (by decide) C.h13 ?_
  refine Subscript_ (nmL F hk (nmC F hci ?_))
  refine itemL hK.lis.is (by omega) (by omega) hsi' ?_
  refine Subscript_ (nmL F ho (nmC F hci ?_))
  refine itemL hT.lis.is (by omega) (by omega) hi' ?_
  refine ⟨fun _ _ e => e, ?_⟩
  refine wpAny_mono (four_call (r1 := .notImplemented) (r2 := .notImplemented) (r3 := .notImplemented) (r4 := .notImplemented) (R.mono (by omega)) T1 C.h13 C.h1 C.h2 C.h3 C.h4
    (fun A' s' E' R' K' => call_1_list R' (T1.keeps K') C.h1 (SetOf_keeps hS K') (hrowi.at fun o e => K' _ o e))
    (fun A' s' E' R' K' => call_2_list R' (T1.keeps K') C.h2 (SetOf_keeps hS K') (hrowi.at fun o e => K' _ o e))
    (fun A' s' E' R' K' => call_3_list R' (T1.keeps K') C.h3 (SetOf_keeps hS K') (hrowi.at fun o e => K' _ o e))
    (fun A' s' E' R' K' => call_4_list R' (T1.keeps K') C.h4 (SetOf_keeps hS K') (hrowi.at fun o e => K' _ o e))) (fun r s₄ hr => ?_) fun _ _ e => e
  obtain ⟨D4, rfl, hD4, hl4, h4, tk4, rfl, K4⟩ := hr
  have F4 := F.kept K4
  refine wpAny_BinOp (wpAny_List (wpAny_items_cons (nmB (T.keeps F4.keep) (by decide) b_ni (wpAny_items_nil ⟨by rw [sizeLine_eq]; simp, ?_⟩))))
  refine wpAny_Constant_int ?_
  refine mul4 ⟨_, Heap.get?_push_size _ rfl, rfl, _, rfl⟩ fun h5 D5 K5 hD5 hl5 => ?_
  have K45 : Stays h4 h5 := fun b o e => K5 b o (Heap.get?_push_of_some _ e)
  refine ⟨fun b o e => K45 b o (K4 b o e), ?_⟩
  have F5 := F4.kept K45
  refine wpAny_mono (same_call (R.mono (by omega)) (T.keeps F5.keep) C.h12 (hl4.at fun o e => K45 _ o e) hl5 (by simp) ?_) (fun r s₅ hr => ?_) fun _ _ e => e
  · intro p v hv
    have hv' : [Value.notImplemented, .notImplemented, .notImplemented, .notImplemented][p]? = some v := by simpa using hv
    have hm := List.mem_of_getElem? hv'
    simp only [List.mem_cons, List.not_mem_nil, or_false] at hm
    rcases hm with rfl | rfl | rfl | rfl <;> rfl
  obtain ⟨rfl, h6, tk6, rfl, K6⟩ := hr
  refine wpAny_truthy_bool (ifF (by decide) ?_)
  refine wpAny_execs_nil ?_
  have F6 := F5.kept K6
  have K06 : Stays s.heap h6 := fun b o e => K6 b o (K45 b o (K4 b o e))
  -- the inner loop
  refine wpAny_execs_cons (wpAny_For ?_)
  refine callT1 (T.keeps F6.keep) b_range (wpAny_Constant_int ?_)
  refine rangeIterN (n := 4) (by decide) fun h7 tk7 I K7 hI1 hI2 => ?_
  have hLI : L < I := Nat.lt_of_lt_of_le F6.lt hI1
  have hcI : ∀ n c, (n, c) ∈ (envAt 14 L a cd).cells → c ≠ I := (F6.apartNew hcs14 (get_none_of_le hI1)).2
  have hII : ∀ b o, s.heap.get? b = some o → b ≠ I := fun b o e => Nat.ne_of_lt (Nat.lt_of_lt_of_le (Heap.lt_size (K06 b o e)) hI1)
  refine forWalk (walksLt (Walks.range R.h I 0 1 4))
    (fun j s' => ∃ h' tk m', s' = { s with heap := h', toks := tk } ∧ Fm h₀ L m' (envAt 14 L a cd).cells cm h' ∧ (∀ b o, b ≠ L → s.heap.get? b = some o → h'.get? b = some o) ∧ IsRangeIter h' I (0 + (j : Nat) * 1) ((4 : Nat) - (j : Nat)) 1 ∧
      m' "told" = m "told" ∧ m' "taken" = m "taken") ?_ ?_ ?_ ?_
  · exact ⟨h7, tk7, m, rfl, F6.kept K7, fun b o _ e => K7 b o (K06 b o e), by simpa using hI2, rfl, rfl⟩
  · rintro j s' ⟨h', tk, m', rfl, _, _, h1, _⟩
    exact h1
  · rintro j v s' h8 tk8 hin ⟨h', tk, m', rfl, F', H', hit, hm1, hm2⟩ ⟨_, tj, rfl⟩ hst hkp
    have hk' : ∀ b o, b ≠ I → h'.get? b = some o → h8.get? b = some o := fun b o hb e => hkp b o (by simpa using hb) e
    have F8 : Fm h₀ L m' (envAt 14 L a cd).cells cm h8 := F'.ext (a := I) hk' hLI hcI
    have H8 : ∀ b o, b ≠ L → s.heap.get? b = some o → h8.get? b = some o := fun b o h1 e => hk' b o (hII b o e) (H' b o h1 e)
    refine stL F8 fun h9 F9 S9 => ?_
    have H9 : ∀ b o, b ≠ L → s.heap.get? b = some o → h9.get? b = some o := fun b o h1 e => (S9.2 b h1).trans (H8 b o h1 e)
    have e0 : ((0 : Int) + (j : Nat) * 1) = (j : Int) := by omega
    have H9' : Hold L (envAt 14 L a cd).cells s.heap h9 := Hold.ne H9
    refine wpAny_mono (law_8_inner (i := i) (j := j) (ti := ti) (tj := tj) R T C F9 hi hin hci (by show some (Value.int ((0 : Int) + (j : Nat) * 1) tj) = some (Value.int (j : Int) tj); rw [e0]) h12 (by exact hm1.trans ho) (hT.hold H9') (by exact hm2.trans hk) (hK.hold H9') hlaw) (fun f s' hf => ?_) fun _ _ e => e
    obtain ⟨rfl, h10, tk10, m10, rfl, F10, H10, hm10⟩ := hf
    refine ⟨h10, tk10, m10, rfl, F10, fun b o h1 e => H10 b o h1 (H9 b o h1 e), H10 I _ (Nat.ne_of_gt hLI) ((S9.2 I (Nat.ne_of_gt hLI)).trans hst), (hm10 "told" (by decide) (by decide)).trans hm1, (hm10 "taken" (by decide) (by decide)).trans hm2⟩
  · rintro s' h8 tk8 ⟨h', tk, m', rfl, F', H', hit, hm1, hm2⟩ hkp
    have hk' : ∀ b o, b ≠ I → h'.get? b = some o → h8.get? b = some o := fun b o hb e => hkp b o (by simpa using hb) e
    refine wpAny_execs_nil ⟨rfl, h8, tk8, m', rfl, F'.ext (a := I) hk' hLI hcI, fun b o h1 e => hk' b o (hII b o e) (H' b o h1 e), hm1, hm2⟩

set_option maxHeartbeats 4000000 in
theorem law_8 {Do Dk a1 a2 a3 a4 a12 a13 : Addr} {l lt : List (Str × Tok)} {ys zs : Array Value} (R : Rm A 3) (T : Wd mg mb h₀) (C : Cmp mg a1 a2 a3 a4 a12 a13)
    (F : Fm h₀ L m (envAt 14 L a cd).cells cm s.heap) (h12 : lt.length = 12)
    (ho : m "told" = some (.ref Do)) (hT : Told L (envAt 14 L a cd).cells s.heap l lt Do ys) (hk : m "taken" = some (.ref Dk)) (hK : Taken prog w L (envAt 14 L a cd).cells s.heap l lt Dk zs) (hlaw : LawHyp l lt) :
    wpAny (model prog w) A (exec (lawStmt 8) (envAt 14 L a cd)) (Next h₀ L a cd s fun _ m' cm' h' => True) (fun _ _ => False) s := by
  refine wpAny_For ?_
  refine callT1 (T.keeps F.keep) b_range (wpAny_Constant_int ?_)
  refine rangeIterN (n := 4) (by decide) fun h2 tk2 I K2 hI1 hI2 => ?_
  have hIA : Apart L (envAt 14 L a cd).cells I := F.apartNew hcs14 (get_none_of_le hI1)
  have hLI : L < I := Nat.lt_of_lt_of_le F.lt hI1
  have hcI : ∀ n c, (n, c) ∈ (envAt 14 L a cd).cells → c ≠ I := hIA.2
  have hII : ∀ b o, s.heap.get? b = some o → b ≠ I := fun b o e => Nat.ne_of_lt (Nat.lt_of_lt_of_le (Heap.lt_size e) hI1)
  refine forWalk (walksLt (Walks.range R.h I 0 1 4))
    (fun i s' => ∃ h' tk m' cm', s' = { s with heap := h', toks := tk } ∧ Fm h₀ L m' (envAt 14 L a cd).cells cm' h' ∧ Hold L (envAt 14 L a cd).cells s.heap h' ∧ IsRangeIter h' I (0 + (i : Nat) * 1) ((4 : Nat) - (i : Nat)) 1 ∧ m' "told" = m "told" ∧ m' "taken" = m "taken") ?_ ?_ ?_ ?_
  · exact ⟨h2, tk2, m, cm, rfl, F.kept K2, Hold.stays K2, by simpa using hI2, rfl, rfl⟩
  · rintro i s' ⟨h', tk, m', cm', rfl, _, _, h1, _⟩
    exact h1
  · rintro i v s' h3 tk3 hin ⟨h', tk, m', cm', rfl, F', H', hit, hm1, hm2⟩ ⟨_, ti, rfl⟩ hst hkp
    have hk' : ∀ b o, b ≠ I → h'.get? b = some o → h3.get? b = some o := fun b o hb e => hkp b o (by simpa using hb) e
    have F3 : Fm h₀ L m' (envAt 14 L a cd).cells cm' h3 := F'.ext (a := I) hk' hLI hcI
    have H3 : Hold L (envAt 14 L a cd).cells s.heap h3 := fun b o h1 h2 e => hk' b o (hII b o e) (H' b o h1 h2 e)
    refine stC F3 fun h5 F5 S5 => ?_
    have H5 : Hold L (envAt 14 L a cd).cells h3 h5 := Hold.cel (n := "i") S5 (mem_of_lookup rfl)
    have H := H3.trans H5
    have e0 : ((0 : Int) + (i : Nat) * 1) = (i : Int) := by omega
    refine wpAny_mono (law_8_turn (i := i) (ti := ti) R T C F5 hin (by show some (Value.int ((0 : Int) + (i : Nat) * 1) ti) = some (Value.int (i : Int) ti); rw [e0]) h12 (hm1.trans ho) (hT.hold H) (hm2.trans hk) (hK.hold H) hlaw) (fun f s' hf => ?_) fun _ _ e => e
    obtain ⟨rfl, h6, tk6, m6, rfl, F6, K6, hm61, hm62⟩ := hf
    refine ⟨h6, tk6, m6, _, rfl, F6, H.trans (Hold.ne K6), K6 _ _ hIA.1 ((S5.2 I (Ne.symm (hcI "i" _ (mem_of_lookup rfl)))).trans hst), hm61.trans hm1, hm62.trans hm2⟩
  · rintro s' h3 tk3 ⟨h', tk, m', cm', rfl, F', H', hit, hm1, hm2⟩ hkp
    have hk' : ∀ b o, b ≠ I → h'.get? b = some o → h3.get? b = some o := fun b o hb e => hkp b o (by simpa using hb) e
    exact ⟨rfl, h3, tk3, m', cm', rfl, F'.ext (a := I) hk' hLI hcI, fun b o h1 h2 e => hk' b o (hII b o e) (H' b o h1 h2 e), trivial⟩
end
end Mine
end

section
namespace Mine

/-- a word read as a pattern: 35 stands for any run, all else for itself -/
inductive Mt : List Nat → List Nat → Prop
  | nil : Mt [] []
  | lit {c w t} : c ≠ 35 → Mt w t → Mt (c :: w) (c :: t)
  | gap {w t} (a : List Nat) : Mt w t → Mt (35 :: w) (a ++ t)

theorem Mt.refl : ∀ w, Mt w w
  | [] => .nil
  | c :: w => by
    by_cases h : c = 35
    · subst h; exact .gap [35] (Mt.refl w)
    · exact .lit h (Mt.refl w)

theorem Mt.nil_iff {t : List Nat} : Mt [] t ↔ t = [] := ⟨fun h => by cases h; rfl, fun h => h ▸ .nil⟩
theorem Mt.lit_iff {c : Nat} {w t : List Nat} (hc : c ≠ 35) : Mt (c :: w) t ↔ ∃ t', t = c :: t' ∧ Mt w t' := by
  constructor
  · intro h
    generalize e : c :: w = v at h
    cases h with
    | nil => cases e
    | lit _ h => cases e; exact ⟨_, rfl, h⟩
    | gap a h => cases e; exact absurd rfl hc
  · rintro ⟨t', rfl, h⟩; exact .lit hc h
theorem Mt.gap_iff {w t : List Nat} : Mt (35 :: w) t ↔ ∃ a t', t = a ++ t' ∧ Mt w t' := by
  constructor
  · intro h
    generalize e : 35 :: w = v at h
    cases h with
    | nil => cases e
    | lit hc h => cases e; exact absurd rfl hc
    | gap a h => cases e; exact ⟨a, _, rfl, h⟩
  · rintro ⟨a, t', rfl, h⟩; exact .gap a h

theorem Mt.split : ∀ (a : List Nat) {x t : List Nat}, Mt (a ++ x) t → ∃ b t', t = b ++ t' ∧ Mt x t'
  | [], x, t, h => ⟨[], t, rfl, h⟩
  | c :: a, x, t, h => by
    by_cases hc : c = 35
    · subst hc
      obtain ⟨g, t1, rfl, h1⟩ := Mt.gap_iff.mp h
      obtain ⟨b, t', rfl, h2⟩ := Mt.split a h1
      exact ⟨g ++ b, t', by simp, h2⟩
    · obtain ⟨t1, rfl, h1⟩ := (Mt.lit_iff hc).mp h
      obtain ⟨b, t', rfl, h2⟩ := Mt.split a h1
      exact ⟨c :: b, t', by simp, h2⟩

theorem Mt.trans {y x : List Nat} (h : Mt y x) : ∀ {t}, Mt x t → Mt y t := by
  induction h with
  | nil => exact fun h => h
  | lit hc _ ih =>
    intro t h
    obtain ⟨t', rfl, h'⟩ := (Mt.lit_iff hc).mp h
    exact .lit hc (ih h')
  | gap a _ ih =>
    intro t h
    obtain ⟨b, t', rfl, h'⟩ := Mt.split a h
    exact .gap b (ih h')

theorem Mt.free : ∀ (p : List Nat) {w t : List Nat}, 35 ∉ p → (Mt (p ++ w) t ↔ ∃ t', t = p ++ t' ∧ Mt w t')
  | [], w, t, _ => ⟨fun h => ⟨t, rfl, h⟩, fun ⟨t', e, h⟩ => by rw [e]; exact h⟩
  | c :: p, w, t, hp => by
    have hc : c ≠ 35 := fun e => hp (by rw [e]; exact List.mem_cons_self)
    have hp' : 35 ∉ p := fun h => hp (List.mem_cons_of_mem _ h)
    rw [List.cons_append, Mt.lit_iff hc]
    constructor
    · rintro ⟨t1, rfl, h⟩
      obtain ⟨t', rfl, h'⟩ := (Mt.free p hp').mp h
      exact ⟨t', rfl, h'⟩
    · rintro ⟨t', rfl, h⟩
      exact ⟨p ++ t', rfl, (Mt.free p hp').mpr ⟨t', rfl, h⟩⟩

/-- the pieces between marks, put together again -/
def glue (z : List Nat) : List (List Nat) → List Nat
  | [] => []
  | [p] => p
  | p :: q :: r => p ++ z ++ glue z (q :: r)

/-- the pieces but the last, each at a place behind the one before -/
def Mid : List (List Nat) → List Nat → Prop
  | [], _ => True
  | p :: r, u => ∃ a b, u = a ++ p ++ b ∧ Mid r b

theorem mt_gap_glue : ∀ (m : List (List Nat)) (l t : List Nat), (∀ p ∈ m, 35 ∉ p) → 35 ∉ l → (Mt (35 :: glue [35] (m ++ [l])) t ↔ ∃ u, t = u ++ l ∧ Mid m u)
  | [], l, t, _, hl => by
    show Mt (35 :: l) t ↔ _
    rw [Mt.gap_iff]
    constructor
    · rintro ⟨a, t', rfl, h⟩
      have h' : Mt (l ++ []) t' := by rw [List.append_nil]; exact h
      obtain ⟨t'', rfl, h''⟩ := (Mt.free l hl).mp h'
      rw [Mt.nil_iff.mp h'', List.append_nil]
      exact ⟨a, rfl, trivial⟩
    · rintro ⟨u, rfl, _⟩
      exact ⟨u, l, rfl, by have := (Mt.free l hl (w := [])).mpr ⟨[], rfl, .nil⟩; simpa using this⟩
  | p :: m, l, t, hm, hl => by
    have hp := hm p List.mem_cons_self
    have e : glue [35] (p :: m ++ [l]) = p ++ (35 :: glue [35] (m ++ [l])) := by
      cases m with
      | nil => show p ++ [35] ++ l = p ++ (35 :: l); simp
      | cons q r => show p ++ [35] ++ _ = _; simp
    rw [e, Mt.gap_iff]
    constructor
    · rintro ⟨a, t', rfl, h⟩
      obtain ⟨t'', rfl, h'⟩ := (Mt.free p hp).mp h
      obtain ⟨u, rfl, hu⟩ := (mt_gap_glue m l t'' (fun q hq => hm q (List.mem_cons_of_mem _ hq)) hl).mp h'
      exact ⟨a ++ p ++ u, by simp, a, u, rfl, hu⟩
    · rintro ⟨u, rfl, a, b, rfl, hb⟩
      exact ⟨a, p ++ (b ++ l), by simp, (Mt.free p hp).mpr ⟨b ++ l, rfl, (mt_gap_glue m l _ (fun q hq => hm q (List.mem_cons_of_mem _ hq)) hl).mpr ⟨b, rfl, hb⟩⟩⟩

/-- a word of two pieces or more -/
theorem mt_glue (p : List Nat) (m : List (List Nat)) (l t : List Nat) (hp : 35 ∉ p) (hm : ∀ p ∈ m, 35 ∉ p) (hl : 35 ∉ l) :
    Mt (glue [35] (p :: (m ++ [l]))) t ↔ ∃ u, t = p ++ u ++ l ∧ Mid m u := by
  have e : glue [35] (p :: (m ++ [l])) = p ++ (35 :: glue [35] (m ++ [l])) := by
    cases m with
    | nil => show p ++ [35] ++ l = p ++ (35 :: l); simp
    | cons q r => show p ++ [35] ++ _ = _; simp
  rw [e, Mt.free p hp]
  constructor
  · rintro ⟨t', rfl, h⟩
    obtain ⟨u, rfl, hu⟩ := (mt_gap_glue m l t' hm hl).mp h
    exact ⟨u, by simp, hu⟩
  · rintro ⟨u, rfl, hu⟩
    exact ⟨u ++ l, by simp, (mt_gap_glue m l _ hm hl).mpr ⟨u, rfl, hu⟩⟩

theorem mt_one (p t : List Nat) (hp : 35 ∉ p) : Mt p t ↔ t = p := by
  have := Mt.free p hp (w := []) (t := t)
  rw [List.append_nil] at this
  rw [this]
  constructor
  · rintro ⟨t', rfl, h⟩; rw [Mt.nil_iff.mp h, List.append_nil]
  · rintro rfl; exact ⟨[], by simp, .nil⟩

theorem Mid.more : ∀ {m : List (List Nat)} {u : List Nat} (a : List Nat), Mid m u → Mid m (a ++ u)
  | [], _, _, _ => trivial
  | p :: m, u, a, h => by
    obtain ⟨b, c, rfl, h'⟩ := h
    exact ⟨a ++ b, c, by simp, h'⟩
theorem Mid.drop {m : List (List Nat)} {u : List Nat} (k : Nat) (h : Mid m (u.drop k)) : Mid m u := by
  have := Mid.more (u.take k) h
  rwa [List.take_append_drop] at this
/-- an empty piece asks for nothing -/
theorem Mid.nil_cons {m : List (List Nat)} {u : List Nat} : Mid ([] :: m) u ↔ Mid m u := by
  constructor
  · rintro ⟨a, b, rfl, h⟩
    rw [List.append_nil]
    exact Mid.more a h
  · intro h; exact ⟨[], u, rfl, h⟩
theorem Mid.snoc_nil : ∀ {m : List (List Nat)} {u : List Nat}, Mid (m ++ [[]]) u ↔ Mid m u
  | [], u => ⟨fun _ => trivial, fun _ => ⟨[], u, by simp, trivial⟩⟩
  | p :: m, u => by
    show (∃ a b, _ ∧ Mid (m ++ [[]]) b) ↔ ∃ a b, _ ∧ Mid m b
    simp only [Mid.snoc_nil]

end Mine
end

section
namespace Mine
open PySem

theorem reads_fold (t : List Nat) : ∀ (w ps : List Nat), (∀ p ∈ ps, p ≤ t.length) → ps.Pairwise (· ≤ ·) →
    ((w.foldl (stepR t) ps).any (· == t.length) = true ↔ ∃ p ∈ ps, Mt w (t.drop p))
  | [], ps, hle, _ => by
    rw [List.foldl_nil, List.any_eq_true]
    constructor
    · rintro ⟨p, hp, h⟩
      have : p = t.length := by simpa using h
      exact ⟨p, hp, Mt.nil_iff.mpr (by rw [this]; simp)⟩
    · rintro ⟨p, hp, h⟩
      have h' := Mt.nil_iff.mp h
      rw [List.drop_eq_nil_iff] at h'
      exact ⟨p, hp, by have := hle p hp; simp; omega⟩
  | c :: w, ps, hle, hs => by
    rw [List.foldl_cons]
    by_cases hc : c = 35
    · subst hc
      cases ps with
      | nil =>
        rw [show stepR t [] 35 = [] from rfl, reads_fold t w [] (fun _ h => nomatch h) .nil]
        simp
      | cons p r =>
        rw [show stepR t (p :: r) 35 = List.range' p (t.length + 1 - p) from rfl, reads_fold t w _ (fun q hq => by have := List.mem_range'_1.mp hq; have := hle p List.mem_cons_self; omega) ?_]
        · constructor
          · rintro ⟨q, hq, h⟩
            have := List.mem_range'_1.mp hq
            refine ⟨p, List.mem_cons_self, Mt.gap_iff.mpr ⟨(t.drop p).take (q - p), t.drop q, ?_, h⟩⟩
            have e : t.drop q = (t.drop p).drop (q - p) := by rw [List.drop_drop]; congr 1; omega
            rw [e, List.take_append_drop]
          · rintro ⟨q, hq, h⟩
            obtain ⟨a, t', e, h'⟩ := Mt.gap_iff.mp h
            have hpq : p ≤ q := by
              rcases List.mem_cons.mp hq with rfl | hq
              · exact Nat.le_refl _
              · exact List.rel_of_pairwise_cons hs hq
            have hqt := hle q hq
            have hl := congrArg List.length e
            rw [List.length_drop, List.length_append] at hl
            refine ⟨q + a.length, List.mem_range'_1.mpr ⟨by omega, by omega⟩, ?_⟩
            rw [← List.drop_drop, e, List.drop_left]
            exact h'
        · exact List.Pairwise.imp (fun h => Nat.le_of_lt h) List.pairwise_lt_range'
    · rw [show stepR t ps c = (ps.filter fun k => (t.drop k).take 1 == [c]).map (· + 1) from if_neg hc]
      have hin : ∀ k, ((t.drop k).take 1 == [c]) = true → t.drop k = c :: t.drop (k + 1) := by
        intro k h
        have h' : (t.drop k).take 1 = [c] := by simpa using h
        rw [← List.drop_drop]
        cases e : t.drop k with
        | nil => rw [e] at h'; simp at h'
        | cons d r => rw [e] at h'; simp at h'; rw [h']; rfl
      rw [reads_fold t w _ ?_ ?_]
      · constructor
        · rintro ⟨q, hq, h⟩
          obtain ⟨k, hk, rfl⟩ := List.mem_map.mp hq
          obtain ⟨hk, hkc⟩ := List.mem_filter.mp hk
          exact ⟨k, hk, by rw [hin k hkc]; exact .lit hc h⟩
        · rintro ⟨k, hk, h⟩
          obtain ⟨t', e, h'⟩ := (Mt.lit_iff hc).mp h
          refine ⟨k + 1, List.mem_map.mpr ⟨k, List.mem_filter.mpr ⟨hk, by rw [e]; simp⟩, rfl⟩, ?_⟩
          rw [← List.drop_drop, e]
          exact h'
      · intro q hq
        obtain ⟨k, hk, rfl⟩ := List.mem_map.mp hq
        obtain ⟨hk, hkc⟩ := List.mem_filter.mp hk
        have := congrArg List.length (hin k hkc)
        rw [List.length_drop, List.length_cons] at this
        show k + 1 ≤ t.length
        omega
      · rw [List.pairwise_map]
        exact List.Pairwise.imp (fun h => Nat.succ_le_succ h) (List.Pairwise.filter _ hs)

theorem reads_iff (x t : Str) : readsV x t = true ↔ Mt x.cps.toList t.cps.toList := by
  unfold readsV
  have e : t.length = t.cps.toList.length := by simp [Str.length]
  rw [e, reads_fold t.cps.toList x.cps.toList [0] (by simp) (by simp)]
  simp
end Mine
end

section
namespace Mine
open PySem PySem.StrLaws Builtin Builtin.Str

abbrev cs (x : Str) : List Nat := x.cps.toList
theorem cs_len (x : Str) : (cs x).length = x.length := by simp [cs, Str.length]
theorem cs_inj {x y : Str} (h : cs x = cs y) : x = y := Str.ext' (Array.toList_inj.mp h)
theorem cs_app (x y : Str) : cs (x ++ y) = cs x ++ cs y := by simp [cs, Str.cps_append]
theorem mark_eq : mark = ⟨#[35]⟩ := by decide +kernel
theorem dots_cs : cs dots = [46, 46, 46] := by decide +kernel
theorem dots_len : dots.length = 3 := by decide +kernel

theorem cs_join (z : Str) : ∀ P : List Str, cs (Str.join z P) = glue (cs z) (P.map cs)
  | [] => rfl
  | [p] => rfl
  | p :: q :: r => by
    show cs (p ++ z ++ Str.join z (q :: r)) = _
    rw [cs_app, cs_app, cs_join z (q :: r)]
    rfl

theorem at_iff {x y : Str} {hi i : Nat} : At x y hi i ↔ i + y.length ≤ hi ∧ ((cs x).drop i).take y.length = cs y := by
  unfold At
  rw [subAt_eq, beq_iff_eq]

theorem parts_of (x : Str) : ∀ (P : List Str) (a : Nat) (cuts : List Nat) (f : Nat), P ≠ [] → (∀ p ∈ P, 46 ∉ cs p) → (cs x).drop a = glue [46, 46, 46] (P.map cs) → a ≤ x.length →
    ChainG x dots x.length a cuts f → (∀ k, f ≤ k → ¬ At x dots x.length k) → partsFrom x dots.length a cuts = P ∧ cuts.length + 1 = P.length
  | [], _, _, _, h, _, _, _, _, _ => absurd rfl h
  | [p], a, cuts, f, _, hp, e, ha, hc, hn => by
    have e' : (cs x).drop a = cs p := e
    have no : ∀ k, a ≤ k → ¬ At x dots x.length k := by
      intro k hk h
      have h2 := (at_iff.mp h).2
      rw [dots_len, dots_cs] at h2
      have m1 : 46 ∈ ((cs x).drop k).take 3 := by rw [h2]; simp
      have m2 : 46 ∈ (cs x).drop k := List.mem_of_mem_take m1
      have e3 : (cs x).drop k = ((cs x).drop a).drop (k - a) := by rw [List.drop_drop]; congr 1; omega
      rw [e3, e'] at m2
      exact hp p List.mem_cons_self (List.mem_of_mem_drop m2)
    cases cuts with
    | nil =>
      refine ⟨?_, rfl⟩
      show [strSub x a x.length] = [p]
      congr 1
      apply cs_inj
      show (strSub x a x.length).cps.toList = _
      rw [strSub_toList]
      show ((cs x).drop a).take _ = _
      rw [e', List.take_of_length_le]
      have := congrArg List.length e'
      rw [List.length_drop, cs_len] at this
      omega
    | cons c r => exact absurd hc.2.1 (no c hc.1)
  | p :: q :: r, a, cuts, f, _, hp, e, ha, hc, hn => by
    have e' : (cs x).drop a = cs p ++ [46, 46, 46] ++ glue [46, 46, 46] ((q :: r).map cs) := e
    have hlen : x.length - a = p.length + 3 + (glue [46, 46, 46] ((q :: r).map cs)).length := by
      have := congrArg List.length e'
      rw [List.length_drop, cs_len, List.length_append, List.length_append, cs_len] at this
      exact this
    have hd : ∀ j, (cs x).drop (a + j) = (cs p ++ [46, 46, 46] ++ glue [46, 46, 46] ((q :: r).map cs)).drop j := by
      intro j; rw [← e', List.drop_drop]
    have hA : At x dots x.length (a + p.length) := by
      rw [at_iff, dots_len, dots_cs]
      refine ⟨by omega, ?_⟩
      rw [hd, List.append_assoc, ← cs_len p, List.drop_left]
      rfl
    have no : ∀ k, a ≤ k → k < a + p.length → ¬ At x dots x.length k := by
      intro k hk hk2 h
      have h2 := (at_iff.mp h).2
      rw [dots_len, dots_cs] at h2
      have e3 : k = a + (k - a) := by omega
      rw [e3, hd, List.append_assoc, List.drop_append_of_le_length (by rw [cs_len]; omega)] at h2
      cases e4 : (cs p).drop (k - a) with
      | nil => rw [List.drop_eq_nil_iff, cs_len] at e4; omega
      | cons c s =>
        rw [e4] at h2
        have : c = 46 := by simpa using (List.cons.inj h2).1
        have m : c ∈ (cs p).drop (k - a) := by rw [e4]; exact List.mem_cons_self
        exact hp p List.mem_cons_self (this ▸ List.mem_of_mem_drop m)
    cases cuts with
    | nil =>
      have : f = a := hc
      exact absurd hA (hn _ (by omega))
    | cons c cuts =>
      obtain ⟨h1, h2, h3, h4⟩ := hc
      have ec : c = a + p.length := by
        rcases Nat.lt_trichotomy c (a + p.length) with h | h | h
        · exact absurd h2 (no c h1 h)
        · exact h
        · exact absurd hA (h3 _ (by omega) h)
      subst ec
      have ih := parts_of x (q :: r) (a + p.length + dots.length) cuts f (by simp) (fun y hy => hp y (List.mem_cons_of_mem _ hy)) (by
        rw [dots_len, Nat.add_assoc, hd]
        have : (cs p ++ [46, 46, 46]).length = p.length + 3 := by rw [List.length_append, cs_len]; rfl
        rw [← this, List.drop_left]) (by rw [dots_len]; omega) h4 hn
      refine ⟨?_, by rw [List.length_cons, ih.2]; rfl⟩
      show strSub x a (a + p.length) :: partsFrom x dots.length (a + p.length + dots.length) cuts = _
      rw [ih.1]
      congr 1
      apply cs_inj
      show (strSub x a (a + p.length)).cps.toList = _
      rw [strSub_toList]
      show ((cs x).drop a).take _ = _
      rw [e', Nat.add_sub_cancel_left, List.append_assoc, ← cs_len p, List.take_left]

theorem at_none {x : Str} {p : Str} (hp : 46 ∉ cs p) (e : cs x = cs p) : ¬ ∃ i, i + dots.length ≤ x.length ∧ subAt x dots i = true := by
  rintro ⟨i, h⟩
  have h2 := (at_iff.mp h).2
  rw [dots_len, dots_cs] at h2
  have m1 : 46 ∈ ((cs x).drop i).take 3 := by rw [h2]; simp
  rw [e] at m1
  exact hp (List.mem_of_mem_drop (List.mem_of_mem_take m1))

theorem contains_one {p : Str} (hp : 46 ∉ cs p) : Txt.contains p dots = false := by
  cases h : Txt.contains p dots with
  | false => rfl
  | true => exact absurd ((found_iff p dots).mp h) (at_none hp rfl)

theorem kind_ge (x : Str) : ¬ Builtin.Str.strKind x < Builtin.Str.strKind dots := by
  have h1 : Builtin.Str.strKind dots = 1 := by decide +kernel
  rw [h1]
  unfold Builtin.Str.strKind
  split
  · decide
  · split <;> decide

/-- what lies between the dots, found again -/
theorem split_dots {P : List Str} (h2 : 2 ≤ P.length) (hp : ∀ p ∈ P, 46 ∉ cs p) :
    Txt.contains (Str.join dots P) dots = true ∧ Txt.split (Str.join dots P) dots = P := by
  obtain ⟨p, q, r, rfl⟩ : ∃ p q r, P = p :: q :: r := by
    match P, h2 with
    | p :: q :: r, _ => exact ⟨p, q, r, rfl⟩
  have e := cs_join dots (p :: q :: r)
  generalize Str.join dots (p :: q :: r) = x at e
  rw [dots_cs] at e
  have hlen : 3 + p.length ≤ x.length := by
    have := congrArg List.length e
    rw [cs_len] at this
    have e2 : (glue [46, 46, 46] ((p :: q :: r).map cs)).length = ((cs p) ++ [46, 46, 46] ++ glue [46, 46, 46] ((q :: r).map cs)).length := rfl
    rw [e2, List.length_append, List.length_append, cs_len] at this
    have e3 : [46, 46, 46].length = 3 := rfl
    omega
  obtain ⟨f, hc, hn⟩ := occ_tight x dots (by rw [dots_len]; decide)
  have key := parts_of x (p :: q :: r) 0 _ f (by simp) hp e (Nat.zero_le _) hc hn
  have hA : At x dots x.length p.length := by
    rw [at_iff, dots_len, dots_cs]
    refine ⟨by omega, ?_⟩
    rw [e]
    show ((cs p ++ [46, 46, 46] ++ glue [46, 46, 46] ((q :: r).map cs)).drop p.length).take 3 = _
    rw [List.append_assoc, ← cs_len p, List.drop_left]
    rfl
  refine ⟨(found_iff x dots).mpr ⟨p.length, hA.1, hA.2⟩, ?_⟩
  unfold Txt.split
  rw [if_neg ?_, if_neg ?_, partsBetween_eq, key.1]
  · intro h
    rw [List.isEmpty_iff] at h
    have := key.2
    rw [h] at this
    simp at this
  · have := kind_ge x
    rw [dots_len]
    simp
    omega

theorem split_ne (x y : Str) : Txt.split x y ≠ [] := by
  unfold Txt.split
  split
  · simp
  · split
    · simp
    · rw [partsBetween_eq]
      obtain ⟨p, r, e⟩ := partsFrom_ne x y.length 0 (occurrences x y 0 x.length (x.length + 1))
      rw [e]; simp
end Mine
end

section
namespace Mine
open PySem PySem.StrLaws Builtin Builtin.Str

theorem occ_head_to (x y : Str) (lo hi : Nat) :
    (occurrences x y lo hi 1 = [] ∧ ∀ i, lo ≤ i → ¬ At x y hi i) ∨
    ∃ i r, occurrences x y lo hi 1 = i :: r ∧ lo ≤ i ∧ At x y hi i ∧ ∀ k, lo ≤ k → k < i → ¬ At x y hi k := by
  rw [occ_eq]
  rcases occ_first x y hi 1 (Nat.le_refl _) (List.range' lo (hi + 1 - lo)) lo (fun i hi => (List.mem_range'_1.mp hi).1) with ⟨h0, hn⟩ | ⟨pre, a, post, e, h0, ha, hn⟩
  · refine .inl ⟨by rw [h0], fun i hlo h => ?_⟩
    exact hn i (by have := h.1; rw [List.mem_range'_1]; omega) h
  · have hs := range'_split_from e
    rw [← Array.getElem?_toList, ← List.head?_eq_getElem?, List.head?_eq_some_iff] at h0
    obtain ⟨r, hr⟩ := h0
    exact .inr ⟨a, r, hr, hs.1, ha, fun k hk0 hk => hn k (hs.2 k hk0 hk)⟩

theorem fromIdx_nat (len n : Nat) : fromIdx len (n : Int) = n := by
  unfold fromIdx
  have h : ¬ ((n : Int) < 0) := by omega
  rw [if_neg h]
  omega

theorem find4_nat (x y : Str) (lo hi : Nat) (h : hi ≤ x.length) :
    (find4 x y lo hi = -1 ∧ ∀ i, lo ≤ i → ¬ At x y hi i) ∨ ∃ i : Nat, find4 x y lo hi = (i : Int) ∧ lo ≤ i ∧ At x y hi i ∧ ∀ k, lo ≤ k → k < i → ¬ At x y hi k := by
  unfold find4
  rw [fromIdx_nat, fromIdx_nat, Nat.min_eq_left h]
  rcases occ_head_to x y lo hi with ⟨e, hn⟩ | ⟨i, r, e, h1, h2, h3⟩
  · rw [e]; exact .inl ⟨rfl, hn⟩
  · rw [e]; exact .inr ⟨i, rfl, h1, h2, h3⟩

theorem take_drop_at {x y : List Nat} {hi i : Nat} (h : i + y.length ≤ hi) : ((x.take hi).drop i).take y.length = (x.drop i).take y.length := by
  rw [List.drop_take, List.take_take, Nat.min_eq_left (by omega)]

theorem ellFind_iff (got : Str) (hi : Nat) (hh : hi ≤ got.length) : ∀ (ws : List Str) (lo : Nat), lo ≤ hi →
    (ellFind got hi lo ws = true ↔ Mid (ws.map cs) (((cs got).take hi).drop lo))
  | [], lo, _ => ⟨fun _ => trivial, fun _ => rfl⟩
  | w :: r, lo, hlo => by
    have hul : ((cs got).take hi).length = hi := by rw [List.length_take, cs_len]; omega
    have place : ∀ a b, ((cs got).take hi).drop lo = a ++ cs w ++ b → At got w hi (lo + a.length) ∧ b = ((cs got).take hi).drop (lo + a.length + w.length) := by
      intro a b e
      have hl := congrArg List.length e
      rw [List.length_drop, hul, List.length_append, List.length_append, cs_len] at hl
      have hA : lo + a.length + w.length ≤ hi := by omega
      refine ⟨at_iff.mpr ⟨hA, ?_⟩, ?_⟩
      · rw [← cs_len w] at hA ⊢
        rw [← take_drop_at hA, ← List.drop_drop, e, List.append_assoc, List.drop_left, List.take_left]
      · rw [Nat.add_assoc, ← List.drop_drop, e, ← cs_len w, ← List.length_append, List.drop_left]
    unfold ellFind
    rcases find4_nat got w lo hi hh with ⟨e, hn⟩ | ⟨i, e, h1, h2, h3⟩
    · rw [e, if_pos (by decide)]
      constructor
      · intro h; cases h
      · rintro ⟨a, b, e, _⟩
        exact absurd (place a b e).1 (hn _ (by omega))
    · rw [e, if_neg (by omega)]
      have hi2 := (at_iff.mp h2).1
      have hw2 := (at_iff.mp h2).2
      have ih := ellFind_iff got hi hh r (i + w.length) hi2
      have ec : (i : Int) + (w.length : Int) = ((i + w.length : Nat) : Int) := by omega
      rw [ec, ih]
      constructor
      · intro h
        refine ⟨(((cs got).take hi).drop lo).take (i - lo), ((cs got).take hi).drop (i + w.length), ?_, h⟩
        have e1 : ((cs got).take hi).drop i = cs w ++ ((cs got).take hi).drop (i + w.length) := by
          rw [← cs_len w] at hi2 hw2
          rw [← take_drop_at hi2] at hw2
          rw [← List.drop_drop]
          conv => lhs; rw [← List.take_append_drop (cs w).length (((cs got).take hi).drop i)]
          rw [hw2, cs_len]
        have e2 : ((cs got).take hi).drop i = (((cs got).take hi).drop lo).drop (i - lo) := by rw [List.drop_drop]; congr 1; omega
        rw [List.append_assoc, ← e1, e2, List.take_append_drop]
      · rintro ⟨a, b, e, hb⟩
        obtain ⟨p1, rfl⟩ := place a b e
        have hia : i ≤ lo + a.length := by
          rcases Nat.lt_or_ge (lo + a.length) i with h | h
          · exact absurd p1 (h3 _ (by omega) h)
          · exact h
        refine Mid.drop (lo + a.length - i) ?_
        rw [List.drop_drop]
        have : i + w.length + (lo + a.length - i) = lo + a.length + w.length := by omega
        rw [this]
        exact hb
end Mine
end

section
namespace Mine
open PySem PySem.StrLaws Builtin Builtin.Str

theorem ell3_iff (got : Str) (lo hi : Nat) (hh : hi ≤ got.length) (ws : List Str) :
    ell3 got lo hi ws = true ↔ lo ≤ hi ∧ Mid (ws.map cs) (((cs got).take hi).drop lo) := by
  unfold ell3
  by_cases h : lo ≤ hi
  · rw [if_neg (by omega), ellFind_iff got hi hh ws lo h]
    exact ⟨fun m => ⟨h, m⟩, fun m => m.2⟩
  · rw [if_pos (by omega)]
    exact ⟨fun h => (by cases h), fun m => absurd m.1 h⟩

theorem starts_iff (x y : Str) : Txt.startswith x y = true ↔ ∃ u, cs x = cs y ++ u := by
  unfold Txt.startswith
  rw [Bool.and_eq_true, decide_eq_true_iff, subAt_eq, beq_iff_eq, Nat.zero_add, List.drop_zero]
  show _ ∧ (cs x).take _ = cs y ↔ _
  constructor
  · rintro ⟨_, h⟩
    exact ⟨(cs x).drop y.length, by rw [← h, List.take_append_drop]⟩
  · rintro ⟨u, e⟩
    refine ⟨?_, by rw [e, ← cs_len y, List.take_left]⟩
    have := congrArg List.length e
    rw [List.length_append, cs_len, cs_len] at this
    omega

theorem ends_iff (x y : Str) : Txt.endswith x y = true ↔ ∃ u, cs x = u ++ cs y := by
  unfold Txt.endswith
  rw [Bool.and_eq_true, decide_eq_true_iff, subAt_eq, beq_iff_eq, Nat.zero_add]
  show _ ∧ ((cs x).drop _).take _ = cs y ↔ _
  constructor
  · rintro ⟨h0, h⟩
    refine ⟨(cs x).take (x.length - y.length), ?_⟩
    rw [List.take_of_length_le (by rw [List.length_drop, cs_len]; omega)] at h
    rw [← h, List.take_append_drop]
  · rintro ⟨u, e⟩
    have hl := congrArg List.length e
    rw [List.length_append, cs_len, cs_len] at hl
    refine ⟨by omega, ?_⟩
    have : x.length - y.length = u.length := by omega
    rw [e, this, List.drop_left, List.take_of_length_le (by rw [cs_len]; exact Nat.le_refl _)]

theorem ell2_iff (got : Str) (lo : Nat) (hlo : lo ≤ got.length) (m : List Str) (l : Str) :
    ell2 got lo got.length (m ++ [l]) = true ↔ ∃ u, (cs got).drop lo = u ++ cs l ∧ Mid (m.map cs) u := by
  unfold ell2
  have e1 : (m ++ [l]).getLastD Str.empty = l := by simp
  have e2 : (m ++ [l]).dropLast = m := by simp
  rw [e1, e2]
  by_cases h0 : l.length = 0
  · have hl : cs l = [] := List.eq_nil_of_length_eq_zero (by rw [cs_len]; exact h0)
    rw [h0, if_neg (by simp), ell3_iff got lo got.length (Nat.le_refl _), List.map_append, List.map_cons, List.map_nil, hl, Mid.snoc_nil, List.take_of_length_le (by rw [cs_len]; exact Nat.le_refl _)]
    constructor
    · rintro ⟨_, h⟩; exact ⟨_, by simp, h⟩
    · rintro ⟨u, e, h⟩; rw [e, List.append_nil]; exact ⟨hlo, h⟩
  · rw [if_pos (by simp; omega)]
    by_cases hs : Txt.endswith got l = true
    · rw [if_pos hs]
      obtain ⟨v, ev⟩ := (ends_iff got l).mp hs
      have hl := congrArg List.length ev
      rw [List.length_append, cs_len, cs_len] at hl
      have ec : (got.length : Int) - (l.length : Int) = ((got.length - l.length : Nat) : Int) := by omega
      rw [ec, ell3_iff got lo _ (by omega)]
      have ev2 : (cs got).take (got.length - l.length) = v := by
        have : got.length - l.length = v.length := by omega
        rw [ev, this, List.take_left]
      rw [ev2]
      constructor
      · rintro ⟨h1, h2⟩
        refine ⟨v.drop lo, ?_, h2⟩
        rw [ev, List.drop_append_of_le_length (by omega)]
      · rintro ⟨u, e, h⟩
        have hl2 := congrArg List.length e
        rw [List.length_drop, List.length_append, cs_len, cs_len] at hl2
        have hlov : lo ≤ v.length := by omega
        refine ⟨by omega, ?_⟩
        rw [ev, List.drop_append_of_le_length hlov] at e
        rw [List.append_cancel_right e]
        exact h
    · rw [if_neg hs]
      constructor
      · intro h; cases h
      · rintro ⟨u, e, h⟩
        refine absurd ((ends_iff got l).mpr ⟨(cs got).take lo ++ u, ?_⟩) hs
        rw [List.append_assoc, ← e, List.take_append_drop]

theorem ell1_iff (got p l : Str) (m : List Str) : ell1 got (p :: (m ++ [l])) = true ↔ ∃ u, cs got = cs p ++ u ++ cs l ∧ Mid (m.map cs) u := by
  unfold ell1
  have e1 : (p :: (m ++ [l])).headD Str.empty = p := rfl
  have e2 : (p :: (m ++ [l])).tail = m ++ [l] := rfl
  rw [e1, e2]
  by_cases h0 : p.length = 0
  · have hp : cs p = [] := List.eq_nil_of_length_eq_zero (by rw [cs_len]; exact h0)
    rw [h0, if_neg (by simp)]
    have := ell2_iff got 0 (Nat.zero_le _) (p :: m) l
    rw [List.cons_append] at this
    rw [show (0 : Int) = ((0 : Nat) : Int) from rfl, this, hp, List.drop_zero, List.map_cons, hp]
    simp only [Mid.nil_cons, List.nil_append]
  · rw [if_pos (by simp; omega)]
    by_cases hs : Txt.startswith got p = true
    · rw [if_pos hs]
      obtain ⟨v, ev⟩ := (starts_iff got p).mp hs
      have hl := congrArg List.length ev
      rw [List.length_append, cs_len, cs_len] at hl
      rw [ell2_iff got p.length (by omega), ev, ← cs_len p, List.drop_left]
      simp only [List.append_assoc, List.append_cancel_left_eq]
    · rw [if_neg hs]
      constructor
      · intro h; cases h
      · rintro ⟨u, e, h⟩
        exact absurd ((starts_iff got p).mpr ⟨u ++ cs l, by rw [e, List.append_assoc]⟩) hs

theorem good_free {k : Nat} {x : Str} (g : Good k x) : ∀ p ∈ Txt.split x mark, 46 ∉ cs p ∧ 35 ∉ cs p := by
  intro p hp
  rw [mark_eq] at hp
  refine ⟨fun h => ?_, split_free x 35 p hp⟩
  have e := join_split x ⟨#[35]⟩
  have sub : ∀ (P : List Str) (z p : Str), p ∈ P → ∀ c ∈ cs p, c ∈ cs (Str.join z P) := by
    intro P z
    induction P with
    | nil => intro p hp; cases hp
    | cons q r ih =>
      intro p hp c hc
      cases r with
      | nil =>
        have : p = q := by simpa using hp
        subst this; exact hc
      | cons q' r' =>
        show c ∈ cs (q ++ z ++ Str.join z (q' :: r'))
        rw [cs_app, cs_app]
        rcases List.mem_cons.mp hp with rfl | hp
        · simp [hc]
        · exact List.mem_append_right _ (ih p hp c hc)
  have hm := sub _ ⟨#[35]⟩ p hp 46 h
  rw [e] at hm
  rcases g.2 46 hm with h | h | h <;> cases h

theorem pieces_form (P : List Str) (h : P ≠ []) : (∃ p, P = [p]) ∨ ∃ p m l, P = p :: (m ++ [l]) := by
  match P, h with
  | [p], _ => exact .inl ⟨p, rfl⟩
  | p :: q :: r, _ => exact .inr ⟨p, (q :: r).dropLast, (q :: r).getLast (by simp), by rw [List.dropLast_concat_getLast]⟩

theorem takes_iff {k : Nat} {x : Str} (t : Str) (g : Good k x) : takes x t = true ↔ Mt (cs x) (cs t) := by
  have fr := good_free g
  have ex : Str.join mark (Txt.split x mark) = x := join_split x mark
  have ew : Txt.replace x mark dots = Str.join dots (Txt.split x mark) := by rw [mark_eq]; exact replace_one x dots 35
  unfold takes ellV
  rw [ew]
  have ne := split_ne x mark
  generalize Txt.split x mark = P at fr ex ne
  subst ex
  rw [cs_join, show cs mark = [35] from by rw [mark_eq]]
  rcases pieces_form P ne with ⟨p, rfl⟩ | ⟨p, m, l, rfl⟩
  · have fp := fr p List.mem_cons_self
    show (if Txt.contains p dots = true then _ else _) = true ↔ Mt (cs p) (cs t)
    rw [contains_one fp.1, if_neg (by simp), mt_one _ _ fp.2]
    show (cs p == cs t) = true ↔ _
    rw [beq_iff_eq]
    exact ⟨fun h => h.symm, fun h => h.symm⟩
  · have sd := split_dots (P := p :: (m ++ [l])) (by simp) (fun y hy => (fr y hy).1)
    rw [if_pos sd.1, sd.2, ell1_iff, List.map_cons, List.map_append, List.map_cons, List.map_nil, mt_glue]
    · exact (fr p List.mem_cons_self).2
    · intro q hq
      obtain ⟨y, hy, rfl⟩ := List.mem_map.mp hq
      exact (fr y (List.mem_cons_of_mem _ (List.mem_append_left _ hy))).2
    · exact (fr l (by simp)).2

end Mine
end

section
open PySem PySem.W PyProof.Rows
namespace Mine
open PySem.Calls Builtin Builtin.Str

/-- the plain law: what is shown of words and texts, with no program in sight -/
structure Plain : Prop where
  ok : ∀ x, Good 100 x → EllOk (Txt.replace x mark dots)
  len : ∀ x z, Good 100 x → z.length ≤ 3 → (Txt.replace x mark z).length ≤ 1000
  eq : ∀ x t, Good 100 x → takes x t = readsV x t
  refl : ∀ x, Good 100 x → takes x x = true
  trans : ∀ x y t, Good 100 x → Good 100 y → takes y x = true → takes x t = true → takes y t = true

theorem Plain.law (P : Plain) {l lt : List (Str × Tok)} {run : Str} (h4 : l.length = 4) (hg : ∀ y ∈ l, Good 100 y.1) (hlt : lt.map (·.1) = textsOf (l.map (·.1)) run) : LawHyp l lt := by
  intro p q x y hp hq hx hy
  have gx := hg x (List.mem_of_getElem? hx)
  have gy := hg y (List.mem_of_getElem? hy)
  have hget : (lt.map (·.1)).getD p Str.empty = x.1 := by
    rw [hlt, List.getD_eq_getElem?_getD]
    unfold textsOf
    rw [List.append_assoc, List.getElem?_append_left (by rw [List.length_map]; omega), List.getElem?_map, hx]
    rfl
  rw [hget, sub_iff]
  constructor
  · exact fun h j _ hj => P.trans x.1 y.1 _ gx gy h hj
  · intro h
    have := h p (by omega) (by rw [hget]; exact P.refl x.1 gx)
    rw [hget] at this
    exact this

section
variable {prog : Program} {w : World} {A : Around} {s : Shared} {mg mb : Str → Option Value} {h₀ : Heap} {L a : Addr} {cd : Value} {m cm : Str → Option Value}

set_option maxHeartbeats 4000000 in
theorem law_body (P : Plain) {Ds : Addr} {vs : List Value} {ns : List Int} (R : Rm A 3) (T : Wd mg mb h₀) (F : Fm h₀ L m (envAt 14 L a cd).cells cm s.heap)
    (hs : cm "script" = some (.ref Ds)) (hls : h₀.IsList Ds vs.toArray) (his : IntsAre vs ns) (h63 : ns.length ≤ 1000) :
    Tri (model prog w) A (execs (defAt 14).body (envAt 14 L a cd)) (Ends h₀ s (.bool true)) (fun _ _ => False) s := by
  obtain ⟨a1, _, _, _, _, h1, _⟩ := T.fn 1 (by decide)
  obtain ⟨a2, _, _, _, _, h2, _⟩ := T.fn 2 (by decide)
  obtain ⟨a3, _, _, _, _, h3, _⟩ := T.fn 3 (by decide)
  obtain ⟨a4, _, _, _, _, h4, _⟩ := T.fn 4 (by decide)
  obtain ⟨a7, _, _, _, _, h7, _⟩ := T.fn 7 (by decide)
  obtain ⟨a9, _, _, _, _, h9, _⟩ := T.fn 9 (by decide)
  obtain ⟨a10, _, _, _, _, h10, _⟩ := T.fn 10 (by decide)
  obtain ⟨a11, _, _, _, _, h11, _⟩ := T.fn 11 (by decide)
  obtain ⟨a12, _, _, _, _, h12, _⟩ := T.fn 12 (by decide)
  obtain ⟨a13, _, _, _, _, h13, _⟩ := T.fn 13 (by decide)
  have C : Cmp mg a1 a2 a3 a4 a12 a13 := ⟨h1, h2, h3, h4, h12, h13⟩
  -- ahead
  refine Tri.cons (law_0 F) (fun f s' hf => ?_)
  obtain ⟨rfl, g1, k1, m1, cm1, rfl, F1, H1, hk1, rfl, hc1, Da, va, na, ha, hla, hia, hna⟩ := hf
  -- sums
  refine wpAny_execs_cons (wpAny_mono (wpAny_toks_of (n := 1) hk1 (law_1 (R.mono (by omega)) T F1 ha hla hia hna ((hc1 "script" (by decide)).trans hs) hls his h63)) (fun f s' hf => ?_) fun _ _ e => e.2)
  obtain ⟨hk2, rfl, g2, k2, m2, cm2, rfl, F2, H2, rfl, D2, v2, n2, hm2, hl2, hi2, hn2⟩ := hf
  -- words
  refine wpAny_execs_cons (wpAny_mono (wpAny_toks_of (n := 1) hk2 (law_2 R T F2 h10 h9 hm2 hl2 hi2 hn2)) (fun f s' hf => ?_) fun _ _ e => e.2)
  obtain ⟨hk3, rfl, g3, k3, m3, cm3, rfl, F3, H3, rfl, hc3, Dw, l, hw, hlw, hl4, hg⟩ := hf
  -- run
  refine wpAny_execs_cons (wpAny_mono (wpAny_toks_of (n := 1) hk3 (law_3 F3 hk3 hm2 (hl2.hold H3) hi2 hn2)) (fun f s' hf => ?_) fun _ _ e => e.2)
  obtain ⟨hk4, rfl, g4, k4, m4, cm4, rfl, F4, H4, rfl, hc4, run, tr, hr, hrun, htr0, htr⟩ := hf
  -- texts
  refine wpAny_execs_cons (wpAny_mono (wpAny_toks_of (n := 1) hk4 (law_4 (R.mono (by omega)) F4 hk4 ((hc4 "words" (by decide)).trans hw) (hlw.hold H4) hl4 hg hr hrun htr0 htr)) (fun f s' hf => ?_) fun _ _ e => e.2)
  obtain ⟨hk5, rfl, g5, k5, m5, cm5, rfl, F5, H5, rfl, hc5, Dt, lt, ht, hlt, helt⟩ := hf
  have hw5 : cm5 "words" = some (.ref Dw) := (hc5 "words" (by decide)).trans ((hc4 "words" (by decide)).trans hw)
  have hlw5 := (hlw.hold H4).hold H5
  have hlen12 : lt.length = 12 := by
    have := congrArg List.length helt
    simp only [textsOf, List.length_append, List.length_map, hl4] at this
    exact this
  have hlens : ∀ y ∈ lt, y.1.length ≤ 1000 := by
    intro y hy
    have hm : y.1 ∈ textsOf (l.map (·.1)) run := by rw [← helt]; exact List.mem_map_of_mem hy
    have hr3 : run.length ≤ 3 := by
      have : run = "a" ∨ run = "ba" ∨ run = "b" ∨ run = "aab" := by simpa [runs] using hrun
      rcases this with rfl | rfl | rfl | rfl <;> decide
    unfold textsOf at hm
    simp only [List.mem_append, List.mem_map] at hm
    rcases hm with (⟨x, hx, e⟩ | ⟨z, ⟨x, hx, rfl⟩, e⟩) | ⟨z, ⟨x, hx, rfl⟩, e⟩
    · rw [← e]; exact Nat.le_trans (hg x hx).1 (by decide)
    · rw [← e]; exact P.len x.1 "" (hg x hx) (by decide)
    · rw [← e]; exact P.len x.1 run (hg x hx) hr3
  -- told
  refine wpAny_execs_cons (wpAny_mono (wpAny_toks_of (n := 1) hk5 (law_5 (R.mono (by omega)) T h7 F5 hk5 hw5 hlw5 hl4 (fun y hy => ⟨hg y hy, P.ok y.1 (hg y hy)⟩) ht hlt (by omega) hlens)) (fun f s' hf => ?_) fun _ _ e => e.2)
  obtain ⟨hk6, rfl, g6, k6, m6, cm6, rfl, F6, H6, rfl, Do, ys, ho, hlo, hys, hrows⟩ := hf
  have hT : Told L (envAt 14 L a cd).cells g6 l lt Do ys := ⟨hlo, hys, hrows⟩
  -- the first loop
  refine wpAny_execs_cons (wpAny_mono (law_6 (R.mono (by omega)) T h11 h12 F6 hw5 (hlw5.hold H6) hl4 ht (hlt.hold H6) (by omega) hlens ho hT (fun y hy z _ => P.eq y.1 z.1 (hg y hy))) (fun f s' hf => ?_) fun _ _ e => e)
  obtain ⟨rfl, g7, k7, m7, cm7, rfl, F7, H7, rfl⟩ := hf
  -- taken
  refine wpAny_execs_cons (wpAny_mono (law_7 (R.mono (by omega)) T F7 hlen12 ho (hT.hold H7)) (fun f s' hf => ?_) fun _ _ e => e)
  obtain ⟨rfl, g8, k8, m8, cm8, rfl, F8, H8, hm8, Dk, zs, hk, hlk, hzs, hrows8⟩ := hf
  have hK : Taken prog w L (envAt 14 L a cd).cells g8 l lt Dk zs := ⟨hlk, hzs, hrows8⟩
  -- the second loop
  refine wpAny_execs_cons (wpAny_mono (law_8 R T C F8 hlen12 ((hm8 "told" (by decide)).trans ho) ((hT.hold H7).hold H8) hk hK (P.law hl4 hg helt)) (fun f s' hf => ?_) fun _ _ e => e)
  obtain ⟨rfl, g9, k9, m9, cm9, rfl, F9, H9, _⟩ := hf
  refine wpAny_execs_cons (wpAny_Return_some (wpAny_Constant_bool ?_))
  exact ⟨rfl, g9, k9, rfl, F9.keep⟩
end
end Mine
end

section
namespace Mine
open PySem PySem.StrLaws Builtin Builtin.Str

theorem glue_len (z : List Nat) : ∀ P : List (List Nat), P ≠ [] → (glue z P).length + z.length = (P.map List.length).sum + P.length * z.length
  | [], h => absurd rfl h
  | [p], _ => by simp [glue]
  | p :: q :: r, _ => by
    have ih := glue_len z (q :: r) (by simp)
    have e : (glue z (p :: q :: r)).length = p.length + z.length + (glue z (q :: r)).length := by
      show (p ++ z ++ glue z (q :: r)).length = _
      rw [List.length_append, List.length_append]
    rw [e, List.map_cons, List.sum_cons, List.length_cons, Nat.succ_mul]
    omega

theorem good_pieces {x : Str} (g : Good 100 x) : (Txt.split x mark).length ≤ 101 ∧ (((Txt.split x mark).map cs).map List.length).sum ≤ 100 := by
  have ex : Str.join mark (Txt.split x mark) = x := join_split x mark
  have hx := g.1
  have ne := split_ne x mark
  generalize Txt.split x mark = P at ex ne
  have e := congrArg List.length (cs_join mark P)
  rw [ex, cs_len, show cs mark = [35] from by rw [mark_eq]] at e
  have h := glue_len [35] (P.map cs) (by simpa using ne)
  rw [← e, List.length_map] at h
  have h1 : [35].length = 1 := rfl
  rw [h1, Nat.mul_one] at h
  have hpos := List.length_pos_iff.mpr ne
  omega

theorem replace_len {x : Str} (z : Str) (g : Good 100 x) (hz : z.length ≤ 3) : (Txt.replace x mark z).length ≤ 1000 := by
  have ew : Txt.replace x mark z = Str.join z (Txt.split x mark) := by rw [mark_eq]; exact replace_one x z 35
  have ⟨h1, h2⟩ := good_pieces g
  have ne := split_ne x mark
  rw [ew]
  generalize Txt.split x mark = P at h1 h2 ne
  have e := congrArg List.length (cs_join z P)
  rw [cs_len] at e
  have h := glue_len (cs z) (P.map cs) (by simpa using ne)
  rw [← e, List.length_map, cs_len] at h
  have : P.length * z.length ≤ 101 * 3 := Nat.mul_le_mul h1 hz
  omega

theorem piece_le {P : List Str} {n : Nat} (h : ((P.map cs).map List.length).sum ≤ n) : ∀ p ∈ P, p.length ≤ n := by
  induction P generalizing n with
  | nil => intro p hp; cases hp
  | cons q r ih =>
    intro p hp
    rw [List.map_cons, List.map_cons, List.sum_cons, cs_len] at h
    rcases List.mem_cons.mp hp with rfl | hp
    · omega
    · have := ih (n := n) (by omega) p hp
      exact this

theorem parts_len (x : Str) (w : Nat) : ∀ (cuts : List Nat) (a : Nat), (partsFrom x w a cuts).length = cuts.length + 1
  | [], _ => rfl
  | c :: r, a => by
    show (partsFrom x w (c + w) r).length + 1 = _
    rw [parts_len x w r]
    rfl

theorem ell_ok {x : Str} (g : Good 100 x) : EllOk (Txt.replace x mark dots) := by
  have hlen := replace_len dots g (by rw [dots_len]; decide)
  refine ⟨hlen, fun hc => ?_⟩
  have hparts : (partsBetween (Txt.replace x mark dots) (occurrences (Txt.replace x mark dots) dots 0 (Txt.replace x mark dots).length ((Txt.replace x mark dots).length + 1)) dots.length).length ≤ sizeLine := by
    rw [partsBetween_eq, parts_len]
    have := occ_length_le_len (Txt.replace x mark dots) dots 0 (Txt.replace x mark dots).length ((Txt.replace x mark dots).length + 1)
    have h2 : 1002 ≤ sizeLine := by rw [sizeLine_eq]; decide
    omega
  have ew : Txt.replace x mark dots = Str.join dots (Txt.split x mark) := by rw [mark_eq]; exact replace_one x dots 35
  have fr := good_free g
  have ⟨h1, h2⟩ := good_pieces g
  have ne := split_ne x mark
  have hP : 2 ≤ (Txt.split x mark).length := by
    rcases pieces_form _ ne with ⟨p, e⟩ | ⟨p, m, l, e⟩
    · rw [e] at fr
      rw [ew, e] at hc
      have := contains_one (fr p List.mem_cons_self).1
      have e2 : Str.join dots [p] = p := rfl
      rw [e2, this] at hc
      cases hc
    · rw [e]; simp
  have sd := split_dots hP (fun y hy => (fr y hy).1)
  rw [← ew] at sd
  rw [sd.2]
  exact ⟨hP, by omega, fun p hp => Nat.le_trans (piece_le h2 p hp) (by decide), hparts⟩

theorem bool_eq {a b : Bool} (h : a = true ↔ b = true) : a = b := by
  cases a <;> cases b <;> simp_all

theorem plain : Plain where
  ok := fun x g => ell_ok g
  len := fun x z g hz => replace_len z g hz
  eq := fun x t g => bool_eq ((takes_iff t g).trans (reads_iff x t).symm)
  refl := fun x g => (takes_iff x g).mpr (Mt.refl _)
  trans := fun x y t gx gy h1 h2 => (takes_iff t gy).mpr (Mt.trans ((takes_iff x gy).mp h1) ((takes_iff t gx).mp h2))
end Mine
end

section
open PySem PySem.W PyProof.Rows
namespace Mine
open PySem.Calls Builtin Builtin.Str

theorem wd_of {p : Program} {loose : List Str} {mean : ExcName → Option Value} {mg mb : Str → Option Value} {h : Heap} (T : Top p loose mean mg mb h)
    (hr : recsOf p = [1, 2, 3, 4, 7, 9, 10, 11, 12, 13, 14].map defAt) (hv : valOf p "ELLIPSIS_MARKER" = some (.str "..."))
    (hf : ∀ x ∈ usedBuiltins, Str.ofString x ∉ startupNames ∧ Str.ofString x ∉ loose ∧ Str.ofString x ∉ (recsOf p).map (·.name) ∧ Str.ofString x ∉ (litsOf p).map (·.1) ∧ Str.ofString x ∉ (clssOf p loose).map (·.name)) : Wd mg mb h where
  g := T.g
  b := T.b
  nolimit := T.nolimit
  fn := fun i hi => T.fn (defAt i) (by
    rw [hr]
    refine List.mem_map_of_mem ?_
    have : i ∈ defPlaces → i ∈ [1, 2, 3, 4, 7, 9, 10, 11, 12, 13, 14] := by simp [defPlaces]; omega
    exact this hi)
  marker := by
    obtain ⟨v, h1, h2⟩ := T.const _ _ hv
    have := h2 h
    cases this with
    | str _ t => exact ⟨t, h1⟩
  free := fun x hx => let ⟨h1, h2, h3, h4, h5⟩ := hf x hx; T.free _ h1 h2 h3 h4 h5
  builtins := fun x hx => T.builtins _ (by
    have : ∀ x ∈ usedBuiltins, Str.ofString x ≠ "__name__" := by decide +kernel
    exact this x hx)

theorem codeDef (i : Nat) {prog : Program} {w : World} {A : Around} {s : Shared} {mg : Str → Option Value} {a : Addr} {vals : List Value} {binds : List (Str × Value)} {R : Result → Shared → Prop}
    (hfn : ∃ a o pm cd doc, mg (defAt i).name = some (.ref a) ∧ s.heap.get? a = some o ∧ o.data = .func (docDef (defAt i).name (defAt i).params (defAt i).body (defAt i).scope pm cd doc) ∧ s.heap.CodeRec cd (defAt i).name)
    (hnl : s.heap.NoLimit) (ha : mg (defAt i).name = some (.ref a)) (hroom : A.depth < recursionLimit)
    (hbind : ∀ pm cd doc, bindArgs (docDef (defAt i).name (defAt i).params (defAt i).body (defAt i).scope pm cd doc) ⟨vals, []⟩ = pure binds)
    (hkind : ∀ x ∈ binds, (defAt i).scope.names.lookup x.1 = some .local ∨ ((defAt i).scope.names.lookup x.1 = some .cell ∧ ((cellsFrom (s.heap.objs.size + 1) (defAt i).scope.names []).lookup x.1).isSome = true))
    (h : ∀ L cd h₁ tk, L = s.heap.objs.size → Fm s.heap L (bindL (envAt i L a cd).kindOf binds fun _ => none) (envAt i L a cd).cells (bindC (envAt i L a cd).kindOf binds fun _ => none) h₁ →
      wpAny (model prog w) (A.deeper (envAt i L a cd)) (execs (defAt i).body (envAt i L a cd)) (fun f s' => R (.ok (.ret (match f with | .ret v => v | _ => .none))) s') (fun _ _ => False) { s with heap := h₁, toks := tk })
    (hco : (defAt i).scope.isCoroutine = false := by rfl) (hgen : (defAt i).scope.isGenerator = false := by rfl) (hk : (defAt i).scope.kind = .function := by rfl) :
    codeAny (model prog w) A (.call (.ref a) ⟨vals, []⟩) R s := by
  obtain ⟨a', o, pm, cd, doc, h1, h2, h3, h4⟩ := hfn
  rw [ha] at h1
  cases h1
  refine codeAny_call_cells hroom h2 h3 hnl h4 rfl (hbind pm cd doc) rfl hkind (fun s₁ x => ?_) hco hgen hk
  have F := Fm.of x
  obtain ⟨h₁, tk, rfl⟩ := x.toInCall.same
  exact wpAny_mono (h _ cd h₁ tk rfl F) (fun f s' hq => hq) fun _ _ f => f.elim

theorem law_call (P : Plain) {prog p : Program} {w : World} {s₁ : Shared} {loose : List Str} {mean : ExcName → Option Value} {mg mb : Str → Option Value} {fa l : Addr} {vs : List Value} {ns : List Int} (T : Top p loose mean mg mb s₁.heap)
    (hr : recsOf p = [1, 2, 3, 4, 7, 9, 10, 11, 12, 13, 14].map defAt) (W : Wd mg mb s₁.heap) (hmg : mg (defAt 14).name = some (.ref fa)) (hg : s₁.gens = #[])
    (hl : s₁.heap.IsList l vs.toArray) (hi : IntsAre vs ns) (h63 : ns.length ≤ 1000) :
    codeAny (model prog w) callerA (.call (.ref fa) ⟨[.ref l], []⟩) (fun r s' => r = .ok (.ret (.bool true)) ∧ (∀ b o, s₁.heap.get? b = some o → s'.heap.get? b = some o) ∧ s'.os = s₁.os ∧ s'.gens = #[]) s₁ := by
  have R : Rm callerA 4 := ⟨rfl, by decide, by decide⟩
  refine codeDef 14 (binds := [("script", .ref l)]) (T.fn (defAt 14) (by rw [hr]; exact List.mem_map_of_mem (by decide))) T.nolimit hmg R.room (fun pm cd doc => rfl) (fun x hx => ?_) (fun L cd h₁ tk hL F => ?_)
  · rw [List.mem_singleton.mp hx]
    exact .inr ⟨rfl, rfl⟩
  have hs : bindC (envAt 14 L fa cd).kindOf [("script", Value.ref l)] (fun _ => none) "script" = some (.ref l) := by kernel_rfl
  generalize bindC (envAt 14 L fa cd).kindOf [("script", Value.ref l)] (fun _ => none) = cm at hs F
  generalize bindL (envAt 14 L fa cd).kindOf [("script", Value.ref l)] (fun _ => none) = m at F
  have R3 : Rm (callerA.deeper (envAt 14 L fa cd)) 3 := R.deeper
  generalize callerA.deeper (envAt 14 L fa cd) = A at R3
  have X := @law_body prog w A { s₁ with heap := h₁, toks := tk } mg mb s₁.heap L fa cd m cm P l vs ns R3 W F hs hl hi h63
  generalize execs (defAt 14).body (envAt 14 L fa cd) = pr at X ⊢
  refine wpAny_mono X.h (fun f s' hq => ?_) fun _ _ f => f.elim
  obtain ⟨rfl, h', tk', rfl, hk⟩ := hq
  exact ⟨rfl, hk, rfl, hg⟩
end Mine
end

section
open PySem PySem.W PyProof.Rows
set_option maxHeartbeats 8000000 in
theorem PySem.Challenge.cw_mr0108_01_holds : PySem.Challenge.rw_mr0108_01.Holds := by
  w_on; o_law; k_head
  (case hw => w_witness2)
  intro w s₀ s₁ mg mb G Y fa o pm cd doc dV kV ho hd hcd hD hmg hg args vals as hpre hlay hrd hwl hlo
  refine Ground.open G ?_
  intro T B D TE TW
  wrow_args hpre hlay hrd hwl hlo
  all_goals (
    first | refine callC_kw (enter_call ?_) | refine enter_call ?_ | refine callC_kw (enter_callW ?_) | refine enter_callW ?_ | w_how
    w_top on
    try refine codeAny_mono ?_ (fun _ _ g => GoodW.toG g)
  )
  rename_i hL _ _ _ hI _ h63 _
  have W := Mine.wd_of T (by kernel_rfl) (by kernel_rfl) (by decide +kernel)
  refine codeAny_mono (Mine.law_call Mine.plain T (by kernel_rfl) W hmg hg hL hI (by omega)) (fun r s' g => ?_)
  obtain ⟨rfl, hk, hos, hgs⟩ := g
  refine ⟨.inl ⟨.bool true, _, [], rfl, raisesW_false ?_, .bool true, ?_, unshared_nil⟩, hk, hos, hgs⟩
  · wrow_none_raised
  · wrow_post
end
