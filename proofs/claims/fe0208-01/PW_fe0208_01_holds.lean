import PyProof.Rows.All
import Wide.All
import OpenK.AllK
import Wide.FinOn
import PySem.Challenge.RW_fe0208_01
set_option Elab.async false
set_option maxRecDepth 100000
set_option maxHeartbeats 4000000
namespace Mine
open PySem PySem.W PyProof.Rows PySem.Calls

abbrev PR : Program := PySem.Challenge.pw_fe0208_01
def stAt (n : Nat) : Stmt := PR.main.body.getD n (.Pass default)
def fparams : Stmt → Arguments
  | .FunctionDef _ a _ _ _ _ _ _ _ _ => a
  | _ => default
def fbody : Stmt → List Stmt
  | .FunctionDef _ _ b _ _ _ _ _ _ _ => b
  | _ => []
def fscope : Stmt → Scope
  | .FunctionDef _ _ _ _ _ _ sc _ _ _ => sc
  | _ => default

def dCell : Stmt := stAt 3
def dLean : Stmt := stAt 4
def dDeps : Stmt := stAt 5
def dLaw : Stmt := stAt 6
def dSolve : Stmt := stAt 1

structure NamesOk (mg mb : Str → Option Value) : Prop where
  cell : mg "_law_cell" = some (.ref 26)
  lean : mg "_law_leaning" = some (.ref 33)
  deps : mg "_law_depths" = some (.ref 38)
  solve : mg "solve_dependencies" = some (.ref 19)
  len0 : mg "len" = none
  len1 : mb "len" = some (.builtin "len")
  abs0 : mg "abs" = none
  abs1 : mb "abs" = some (.builtin "abs")
  int0 : mg "int" = none
  int1 : mb "int" = some (.type "int")
  str0 : mg "str" = none
  str1 : mb "str" = some (.type "str")
  range0 : mg "range" = none
  range1 : mb "range" = some (.type "range")
  list0 : mg "list" = none
  list1 : mb "list" = some (.type "list")
  dict0 : mg "dict" = none
  dict1 : mb "dict" = some (.type "dict")
  set0 : mg "set" = none
  set1 : mb "set" = some (.type "set")
  max0 : mg "max" = none
  max1 : mb "max" = some (.builtin "max")
  sorted0 : mg "sorted" = none
  sorted1 : mb "sorted" = some (.builtin "sorted")
  repr0 : mg "repr" = none
  repr1 : mb "repr" = some (.builtin "repr")
  ve0 : mg "ValueError" = none
  ve1 : mb "ValueError" = some (.type "ValueError")

def DefAt (h : Heap) (a c : Addr) (nm : Str) (st : Stmt) : Prop :=
  ∃ o pm doc, h.get? a = some o ∧ o.data = .func (docDef nm (fparams st) (fbody st) (fscope st) pm (.ref c) doc) ∧ h.CodeRec (.ref c) nm

theorem DefAt.keeps {h h' : Heap} {a c nm st} (x : DefAt h a c nm st) (hk : ∀ b o, h.get? b = some o → h'.get? b = some o) : DefAt h' a c nm st :=
  let ⟨o, pm, doc, h1, h2, h3⟩ := x; ⟨o, pm, doc, hk _ _ h1, h2, h3.keeps hk⟩

structure Glo (h : Heap) : Prop where
  nolimit : h.NoLimit
  gb : ∃ mg mb, h.Ns mainGlobals mg ∧ h.Ns builtinsNs mb ∧ NamesOk mg mb
  fcell : DefAt h 26 25 "_law_cell" dCell
  flean : DefAt h 33 32 "_law_leaning" dLean
  fdeps : DefAt h 38 37 "_law_depths" dDeps
  fsolve : DefAt h 19 18 "solve_dependencies" dSolve

theorem Glo.keeps {h h' : Heap} (x : Glo h) (hk : ∀ b o, h.get? b = some o → h'.get? b = some o) : Glo h' :=
  ⟨x.nolimit.keeps hk, let ⟨mg, mb, a, b, c⟩ := x.gb; ⟨mg, mb, a.keeps hk, b.keeps hk, c⟩, x.fcell.keeps hk, x.flean.keeps hk, x.fdeps.keeps hk, x.fsolve.keeps hk⟩

section
variable {M : Model} {A : Around} {E : Value → Shared → Prop} {s : Shared} {env : Env} {Q : Value → Shared → Prop} {x : Str} {pos : Pos} {v : Value}

/-- a built-in name -/
theorem nmB (G : Glo s.heap) (h0 : ∀ mg mb, NamesOk mg mb → mg x = none ∧ mb x = some v) (h : Q v s)
    (hg : env.globals = mainGlobals := by rfl) (hb : env.builtins = builtinsNs := by rfl) (hk : env.scope.kind = .function := by rfl)
    (hx : env.kindOf x = some .globalImplicit := by rfl) (hd : (x == ("__debug__" : Str)) = false := by decide) : wpAny M A (eval (.Name x pos) env) Q E s := by
  obtain ⟨mg, mb, g, b, ok⟩ := G.gb
  exact Name_function_global hk hx (loadGlobal_builtin (by rw [hg]; exact g) (h0 mg mb ok).1 (by rw [hb]; exact b) (h0 mg mb ok).2 h) hd
theorem nmG (G : Glo s.heap) (h0 : ∀ mg mb, NamesOk mg mb → mg x = some v) (h : Q v s)
    (hg : env.globals = mainGlobals := by rfl) (hk : env.scope.kind = .function := by rfl)
    (hx : env.kindOf x = some .globalImplicit := by rfl) (hd : (x == ("__debug__" : Str)) = false := by decide) : wpAny M A (eval (.Name x pos) env) Q E s := by
  obtain ⟨mg, mb, g, b, ok⟩ := G.gb
  exact Name_function_global hk hx (loadGlobal_global (by rw [hg]; exact g) (h0 mg mb ok) h) hd
end
end Mine
namespace Mine
open PySem PySem.W PyProof.Rows PySem.Calls

def cellV (ns : List Int) (a : Nat) : Int := if a < ns.length then ((ns.getD a 0).natAbs : Int) % 1000003 else 7 * a + 3

theorem cellV_nonneg (ns : List Int) (a : Nat) : 0 ≤ cellV ns a := by
  unfold cellV; split <;> omega
theorem cellV_lt (ns : List Int) (a : Nat) (h : a ≤ 100) : cellV ns a < 1000003 := by
  unfold cellV; split <;> omega

section
variable {prog : Program} {w : World} {A : Around} {E : Value → Shared → Prop} {s : Shared} {Q : Value → Shared → Prop}

theorem cell_spec {l : Addr} {vs : List Value} {ns : List Int} {a : Nat} {ta : Tok} (G : Glo s.heap) (hroom : A.depth < recursionLimit) (hl : s.heap.IsList l vs.toArray) (hi : IntsAre vs ns) (hn : ns.length ≤ 63) (ha : a ≤ 100)
    (hQ : ∀ h' tk t, (∀ b o, s.heap.get? b = some o → h'.get? b = some o) → Q (.int (cellV ns a) t) { s with heap := h', toks := tk }) :
    wpAny (model prog w) A (call (.ref 26) [.ref l, .int a ta]) Q E s := by
  obtain ⟨o, pm, doc, ho, hd, hcd⟩ := G.fcell
  refine wpAny_call (call_pos_ret hroom ho hd G.nolimit hcd (by rfl) (locs (by rfl)) (fun h₁ F => ?_) (hcell := by decide))
  have G1 : Glo h₁ := G.keeps F.keep
  have hl1 : h₁.IsList l vs.toArray := hl.at fun o e => F.keep _ o e
  have hlen : vs.length = ns.length := hi.length
  have hidx : vs.toArray.size = ns.length := by simp [hlen]
  refine wpAny_execs_cons (wpAny_Return_some (IfExp_ ?_))
  refine wpAny_isTrue_Compare1 ?_
  refine ld F rfl ?_
  refine Call_ (nmB G1 (fun _ _ k => ⟨k.len0, k.len1⟩) ?_)
  refine PyProof.Rows.callWith_builtin1 ?_
  refine spliced_cons (ld F rfl (spliced_nil ?_))
  refine PyProof.Rows.len_list hl1 (by rw [hidx]; omega) ?_
  refine PyProof.Rows.lt_int ?_
  refine wpAny_truthy_bool ?_
  by_cases hlt : a < ns.length
  · have hd1 : decide ((a : Int) < (vs.toArray.size : Int)) = true := by rw [hidx]; exact decide_eq_true (by omega)
    rw [hd1]
    show wpAny _ _ (eval _ _) _ _ _
    obtain ⟨tv, hv⟩ := hi.get a (ns.getD a 0) (by simp [List.getD, hlt])
    refine wpAny_BinOp (Call_ (nmB G1 (fun _ _ k => ⟨k.abs0, k.abs1⟩) ?_))
    refine PyProof.Rows.callWith_builtin1 ?_
    refine spliced_cons (Call_ (nmB G1 (fun _ _ k => ⟨k.int0, k.int1⟩) ?_))
    refine PyProof.Rows.callWith_type1 ?_
    refine spliced_cons (Subscript_ (ld F rfl (ld F rfl ?_)))
    refine tail_any hl1.typeIs slot_list_getitem.lookup (wpAny_getItem_list hl1 (by omega) (by omega) (x := .int (ns.getD a 0) tv) (by simpa using hv) ?_) (by with_unfolding_all rfl)
    refine spliced_nil (call_int_int (spliced_nil (call_abs_int fun u tk => ?_)))
    refine wpAny_Constant_int ?_
    refine mod_int' (by decide) ?_
    have e : (if ns.getD a 0 < 0 then -(ns.getD a 0) else ns.getD a 0).fmod 1000003 = cellV ns a := by
      rw [cellV, if_pos hlt, Int.fmod_eq_emod_of_nonneg _ (by decide)]
      congr 1; split <;> omega
    show Q (Value.int _ _) _
    rw [e]
    exact hQ _ _ _ F.keep
  · have hd1 : decide ((a : Int) < (vs.toArray.size : Int)) = false := by rw [hidx]; exact decide_eq_false (by omega)
    rw [hd1]
    show wpAny _ _ (eval _ _) _ _ _
    refine wpAny_BinOp (wpAny_BinOp (wpAny_Constant_int (ld (s := { s with heap := h₁, toks := _ }) F rfl ?_)))
    refine PyProof.Rows.mul_int ?_ (IntMulOk.of_left (by decide))
    refine wpAny_Constant_int (PyProof.Rows.add_int ?_)
    have e : (7 : Int) * (a : Int) + 3 = cellV ns a := by rw [cellV, if_neg hlt]
    show Q (Value.int _ _) _
    rw [e]
    exact hQ _ _ _ F.keep
end
end Mine
namespace Mine
open PySem PySem.W PyProof.Rows PySem.Calls

abbrev No : Value → Shared → Prop := fun _ _ => False

def LStr (h : Heap) (l : Addr) (xs : List Str) : Prop := ∃ vs : List Value, h.PlainList l vs.toArray ∧ StrsAre vs xs
theorem LStr.at {h h' : Heap} {l xs} (x : LStr h l xs) (e : ∀ o, h.get? l = some o → h'.get? l = some o) : LStr h' l xs :=
  let ⟨vs, a, b⟩ := x; ⟨vs, a.at e, b⟩

/-- two addresses that hold unlike things are two -/
theorem ne_of_data {h : Heap} {a b : Addr} {o p : Obj} (ha : h.get? a = some o) (hb : h.get? b = some p) (hd : o.data ≠ p.data) : a ≠ b := fun e => by
  subst e; rw [ha] at hb; cases hb; exact hd rfl
theorem ns_ne_list {h : Heap} {L l : Addr} {m xs} (n : h.Ns L m) (x : LStr h l xs) : l ≠ L := by
  obtain ⟨o, es, ep, ho, hd, _⟩ := n
  obtain ⟨vs, ⟨k, hl⟩, _⟩ := x
  exact ne_of_data hl ho (by rw [hd]; exact fun e => by cases e)

section
variable {prog : Program} {w : World} {A : Around} {s : Shared} {env : Env} {h₀ : Heap} {R : Result → Shared → Prop}

def StepX (h₀ : Heap) (L : Addr) (X : (Str → Option Value) → Heap → Prop) (St : Heap → Prop) (s₁ : Shared) (f : Flow) (s₂ : Shared) : Prop :=
  f = .next ∧ ∃ h' tk m₂, s₂ = { s₁ with heap := h', toks := tk } ∧ Fr h₀ L h' m₂ ∧ X m₂ h' ∧ St h'

theorem codeFor {x : Str} {px : Pos} {body : List Stmt} {I : Addr} {fp wr : List Addr} {n : Nat} {P : Nat → Value → Prop} {St : Nat → Heap → Prop} {m : Str → Option Value}
    (W : Walks prog w A I fp wr n P St) (hx : env.kindOf x = some .local)
    (hp : (env.scope.kind == .class || (env.scope.kind == .module && env.locals != env.globals)) = false)
    (hLf : env.locals ∉ fp) (hwr : ∀ b ∈ wr, h₀.get? b = none)
    (X : Nat → (Str → Option Value) → Heap → Prop) (hX : ∀ i m h h', X i m h → (∀ b o, b ≠ env.locals → b ∉ wr → h.get? b = some o → h'.get? b = some o) → X i m h')
    (hst : St 0 s.heap) (F : Fr h₀ env.locals s.heap m) (h0 : X 0 m s.heap)
    (step : ∀ i v m₁ h₁ tk₁, i < n → P i v → X i m₁ h₁ → Fr h₀ env.locals h₁ (fun y => if y = x then some v else m₁ y) → St (i + 1) h₁ →
      wpAny (model prog w) A (execs body env) (StepX h₀ env.locals (X (i + 1)) (St (i + 1)) { s with heap := h₁, toks := tk₁ }) No { s with heap := h₁, toks := tk₁ })
    (hR : ∀ h' tk m', Fr h₀ env.locals h' m' → X n m' h' → R (.ok .next) { s with heap := h', toks := tk }) :
    codeAny (model prog w) A (.forLoop (.Name x px) (.ref I) body [] env) R s := by
  have hLw : env.locals ∉ wr := fun h => hLf (W.sub _ h)
  have old : ∀ b o, h₀.get? b = some o → b ∉ wr := fun b o e hb => by rw [hwr b hb] at e; cases e
  refine codeAny_forLoop
    (fun k s' => ∃ h' tk m' i, s' = { s with heap := h', toks := tk } ∧ St i h' ∧ Fr h₀ env.locals h' m' ∧ X i m' h' ∧ i ≤ n ∧ k = n + 1 - i) ?_ (n + 1)
    ⟨s.heap, s.toks, m, 0, rfl, hst, F, h0, Nat.zero_le _, rfl⟩
  rintro k s' ⟨h', tk, m', i, rfl, hst', F', hJ, hi, rfl⟩
  have next : ∀ h₁ : Heap, (∀ b o, b ∉ wr → h'.get? b = some o → h₁.get? b = some o) → Fr h₀ env.locals h₁ m' ∧ X i m' h₁ := fun h₁ hk₁ =>
    ⟨⟨F'.ns.at' fun o e => hk₁ _ o hLw e, fun b o e => hk₁ b o (old b o e) (F'.keep b o e), F'.above⟩, hX _ _ _ _ hJ fun b o _ hb e => hk₁ b o hb e⟩
  by_cases hlt : i < n
  · refine W.item i _ _ _ hlt hst' fun v h₁ tk₁ hP hst₁ hk₁ => ?_
    obtain ⟨F₁, X₁⟩ := next h₁ hk₁
    refine wpAny_assign_Name (wpAny_storeName_local hx F₁.ns (fun h₂ hn₂ hs₂ => ?_) hp)
    have F₂ := F₁.set hn₂ hs₂
    have st₂ : St (i + 1) h₂ := W.frame _ _ _ hst₁ fun b hb o e => (hs₂.2 b fun q => hLf (q ▸ hb)).trans e
    refine wpAny_mono (step i v m' h₂ _ hlt hP (hX _ _ _ _ X₁ fun b o hb _ e => (hs₂.2 b hb).trans e) F₂ st₂) (fun f s₃ h₃ => ?_) fun _ _ e => e.elim
    obtain ⟨rfl, h₃', tk₃, m₂, rfl, F₃, X₃, st₃⟩ := h₃
    exact ⟨n + 1 - (i + 1), by omega, h₃', tk₃, m₂, i + 1, rfl, st₃, F₃, X₃, hlt, rfl⟩
  · have hin : i = n := by omega
    subst hin
    refine W.done _ _ _ hst' fun h₁ tk₁ hk₁ => wpAny_execs_nil ?_
    obtain ⟨F₁, X₁⟩ := next h₁ hk₁
    exact hR h₁ tk₁ m' F₁ X₁

/-- a `for` over anything that walks -/
theorem forX {Q : Flow → Shared → Prop} {x : Str} {px pos : Pos} {iter : Expr} {body : List Stmt} (hx : env.kindOf x = some .local)
    (hp : (env.scope.kind == .class || (env.scope.kind == .module && env.locals != env.globals)) = false)
    (h : wpAny (model prog w) A (eval iter env) (fun xv s₁ => wpAny (model prog w) A (pyIter xv) (fun it s₂ =>
      ∃ (I : Addr) (fp wr : List Addr) (n : Nat) (P : Nat → Value → Prop) (St : Nat → Heap → Prop) (m : Str → Option Value) (X : Nat → (Str → Option Value) → Heap → Prop),
        it = .ref I ∧ Walks prog w A I fp wr n P St ∧ env.locals ∉ fp ∧ (∀ b ∈ wr, h₀.get? b = none) ∧
        (∀ i m h h', X i m h → (∀ b o, b ≠ env.locals → b ∉ wr → h.get? b = some o → h'.get? b = some o) → X i m h') ∧ St 0 s₂.heap ∧ Fr h₀ env.locals s₂.heap m ∧ X 0 m s₂.heap ∧
        (∀ i v m₁ h₁ tk₁, i < n → P i v → X i m₁ h₁ → Fr h₀ env.locals h₁ (fun y => if y = x then some v else m₁ y) → St (i + 1) h₁ →
          wpAny (model prog w) A (execs body env) (StepX h₀ env.locals (X (i + 1)) (St (i + 1)) { s₂ with heap := h₁, toks := tk₁ }) No { s₂ with heap := h₁, toks := tk₁ }) ∧
        ∀ h' tk m', Fr h₀ env.locals h' m' → X n m' h' → Q .next { s₂ with heap := h', toks := tk }) No s₁) No s)
    (hs : ∀ x, foldedSetIterable iter env x = pure x := by intro _; rfl) :
    wpAny (model prog w) A (exec (.For (.Name x px) iter body [] pos) env) Q No s := by
  refine wpAny_For (wpAny_mono h (fun xv s₁ h₁ => wpAny_mono h₁ (fun it s₂ h₂ => ?_) fun _ _ e => e) fun _ _ e => e) hs
  obtain ⟨I, fp, wr, n, P, St, m, X, rfl, W, hLf, hwr, hX, hst, F, h0, step, hQ⟩ := h₂
  exact codeFor (R := fun r s' => match r with | .ok f => Q f s' | .error e => cameBackBy (model prog w) A env No e s') W hx hp hLf hwr X hX hst F h0 step hQ

/-- the iterator of range(n), two objects on -/
theorem rangeIter {e : Expr} {rp rpos : Pos} {n : Nat} {Q : Value → Shared → Prop} {E : Value → Shared → Prop} (hh : A.handled = none) (G : Glo s.heap) (hn : n ≤ 1000)
    (he : ∀ {E' : Value → Shared → Prop} {Q' : Value → Shared → Prop}, (∀ t tk, Q' (.int (n : Int) t) { s with toks := tk }) → wpAny (model prog w) A (eval e env) Q' E' s)
    (hse : backTo rpos (starEach [e] env) = [(false, eval e env)])
    (hQ : ∀ I h' tk, s.heap.objs.size ≤ I → (∀ b o, s.heap.get? b = some o → h'.get? b = some o) →
      Walks prog w A I [I] [I] n (fun i v => ∃ t, v = .int (i : Int) t) (fun i h => IsRangeIter h I (0 + (i : Nat) * 1) ((n : Int) - (i : Nat)) 1) → IsRangeIter h' I (0 + ((0 : Nat) : Nat) * 1) ((n : Int) - ((0 : Nat) : Nat)) 1 →
      Q (.ref I) { s with heap := h', toks := tk })
    (hg : env.globals = mainGlobals := by rfl) (hb : env.builtins = builtinsNs := by rfl) (hk : env.scope.kind = .function := by rfl)
    (hx : env.kindOf "range" = some .globalImplicit := by rfl) :
    wpAny (model prog w) A (eval (.Call (.Name "range" rp) [e] [] rpos) env) (fun xv s₁ => wpAny (model prog w) A (pyIter xv) Q E s₁) E s := by
  refine wpAny_Call_NameR (nmB G (fun _ _ k => ⟨k.range0, k.range1⟩) ?_ hg hb hk hx)
  rw [hse]
  refine PySem.callWith_type rfl (evalArgs_plain (spliced_cons (he fun t tk => spliced_nil ?_)))
  refine call_range_1 ?_
  refine wpAny_pyIter_range (IsRange.new ..) (PySem.small_one (by omega) (by omega) (by omega) (by omega)) ?_
  have hsz : Builtin.Range.rangeSize 0 (n : Int) 1 = (n : Int) := by rw [rangeSize_one]; split <;> omega
  have W := Walks.range (prog := prog) (w := w) hh ((s.heap.push { cls := .type "range", data := .fields #[.int 0 tk, .int (n : Int) t, .int 1 (tk + 1)] }).objs.size) 0 1 n
  refine hQ _ _ _ (by simp [Heap.size_push]) (fun b o e => Heap.get?_push_of_some _ (Heap.get?_push_of_some _ e)) ?_ ?_
  · exact { W with item := fun i s Q E hi st h => W.item i s Q E hi st fun v h' tk' hv => h v h' tk' (by obtain ⟨t', e⟩ := hv; exact ⟨t', by simpa using e⟩) }
  · show IsRangeIter _ _ (0 + ((0 : Nat) : Nat) * 1) ((n : Int) - ((0 : Nat) : Nat)) 1
    have e2 : ((n : Int) - ((0 : Nat) : Int)) = Builtin.Range.rangeSize 0 (n : Int) 1 := by rw [hsz]; simp
    rw [e2]
    exact Heap.get?_push_size _ rfl
end
end Mine
namespace Mine
open PySem PySem.W PyProof.Rows PySem.Calls

def forB : Stmt → List Stmt
  | .For _ _ b _ _ => b
  | _ => []
def forIf : Stmt → Expr
  | .If t _ _ _ => t
  | _ => .Name "" default
def boolVals : Expr → List Expr
  | .BoolOp _ vs _ => vs
  | _ => []
def leanOuter : List Stmt := forB ((fbody dLean).getD 1 (.Pass default))
def leanInner : List Stmt := forB (leanOuter.getD 1 (.Pass default))
def nm (i : Nat) : Str := Str.ofString "n" ++ Str.ofString (toString (i : Int))

def Incr (js : List Nat) (i : Nat) : Prop := js.Pairwise (· < ·) ∧ ∀ j ∈ js, j < i

section
variable {prog : Program} {w : World} {A : Around} {s : Shared} {h₀ : Heap} {L : Addr} {m : Str → Option Value}

abbrev eLean (L : Addr) : Env := envOf "_law_leaning" (fscope dLean) L 33 (.ref 32)

theorem strsAre_length : ∀ {vs : List Value} {xs : List Str}, StrsAre vs xs → vs.length = xs.length
  | _, _, .nil => rfl
  | _, _, .cons _ _ r => by simp [strsAre_length r]
theorem strsAre_snoc : ∀ {vs : List Value} {xs : List Str} {y : Str} {t : Tok}, StrsAre vs xs → StrsAre (vs ++ [.str y t]) (xs ++ [y])
  | _, _, y, t, .nil => .cons y t .nil
  | _, _, _, _, .cons a b r => .cons a b (strsAre_snoc r)
theorem incr_len : ∀ {js : List Nat} {k i : Nat}, js.Pairwise (· < ·) → (∀ j ∈ js, k ≤ j ∧ j < i) → js.length ≤ i - k
  | [], _, _, _, _ => Nat.zero_le _
  | j :: r, k, i, hp, hb => by
    have h1 := List.pairwise_cons.mp hp
    have h2 := hb j (.head _)
    have := incr_len (k := j + 1) (i := i) h1.2 fun x hx => ⟨h1.1 x hx, (hb x (.tail _ hx)).2⟩
    simp only [List.length_cons]; omega
theorem Incr.len {js : List Nat} {i : Nat} (h : Incr js i) : js.length ≤ i := by
  have := incr_len (k := 0) h.1 fun j hj => ⟨Nat.zero_le _, h.2 j hj⟩
  omega

theorem nm_len (i : Nat) (h : i < 7) : (nm i).length ≤ 100 := by
  have : ∀ i < 7, (nm i).length ≤ 100 := by decide
  exact this i h

/-- 'n' + str(other) -/
theorem nmName {Q : Value → Shared → Prop} {E : Value → Shared → Prop} {x : Str} {i : Nat} {ti t₀ : Tok} {p1 p2 p3 : Pos} (G : Glo s.heap) (F : Fr h₀ L s.heap m) (hm : m x = some (.int (i : Int) ti)) (hi : i < 7)
    (h : ∀ t tk, Q (.str (nm i) t) { s with toks := tk }) 
    (hl : (eLean L).kindOf x = some .local := by rfl) (hd : (x == ("__debug__" : Str)) = false := by decide) :
    wpAny (model prog w) A (eval (.Call (.Name "str" p1) [.Name x p2] [] p3) (eLean L)) (fun b s₂ => wpAny (model prog w) A (binaryOp .Add (.str (Str.ofString "n") t₀) b) Q E s₂) E s := by
  refine wpAny_Call_NameR (nmB G (fun _ _ k => ⟨k.str0, k.str1⟩) ?_)
  refine PySem.callWith_type rfl (evalArgs_plain (spliced_cons (ld F hm (spliced_nil ?_) rfl hl hd)))
  have hlog : (i : Int).natAbs.log2 < 1920 := by
    have : ∀ i < 7, ((i : Nat) : Int).natAbs.log2 < 1920 := by decide
    exact this i hi
  refine P.str_of_int hlog (PyProof.Rows.add_str (fun t tk => h t tk) ?_)
  have : ∀ i < 7, (Str.ofString "n").length + (Str.ofString (toString ((i : Nat) : Int))).length ≤ 100 := by decide
  exact Nat.le_trans (this i hi) (by decide)
theorem leanInner_turn {l lo : Addr} {vs : List Value} {ns : List Int} {a i : Nat} {z : Int} {ta tz ti : Tok} {js : List Nat} (G : Glo s.heap) (hroom : A.depth < recursionLimit)
    (F : Fr h₀ L s.heap m) (hl : s.heap.IsList l vs.toArray) (hi : IntsAre vs ns) (hn : ns.length ≤ 63)
    (m1 : m "script" = some (.ref l)) (m2 : m "at" = some (.int (a : Int) ta)) (m3 : m "told" = some (.int z tz)) (m4 : m "other" = some (.int (i : Int) ti)) (m5 : m "lot" = some (.ref lo))
    (hz0 : 0 ≤ z) (hz1 : z < 1000003) (hlo : LStr s.heap lo (js.map nm)) (hnew : h₀.get? lo = none) (hjs : Incr js i) (hi7 : i < 7) :
    wpAny (model prog w) A (execs leanInner (eLean L)) (fun f s' => f = .next ∧ ∃ h' tk z' t' js', s' = { s with heap := h', toks := tk } ∧ Fr h₀ L h' (fun y => if y = "told" then some (.int z' t') else m y) ∧ 0 ≤ z' ∧ z' < 1000003 ∧ Incr js' (i + 1) ∧ LStr h' lo (js'.map nm) ∧
      ∀ b o, b ≠ L → b ≠ lo → s.heap.get? b = some o → h'.get? b = some o) No s := by
  refine wpAny_execs_cons (wpAny_If (wpAny_mono (Q := fun _ s' => Keeps s s') ?_ (fun b s₁ hb => ?_) fun _ _ e => e))
  · have fin : ∀ tk, Keeps s { s with toks := tk } := fun tk => ⟨_, _, rfl, fun _ _ e => e⟩
    have second : ∀ (tk : Nat) pos whole, wpAny (model prog w) A (isTrue (.BoolOp .Or ((boolVals ((forIf (leanInner.getD 0 (.Pass default))))).drop 1) pos) (eLean L) whole) (fun _ s' => Keeps s s') No { s with toks := tk } := by
      intro tk pos whole
      refine isTrue_or (isTrue_and (wpAny_isTrue_Compare1 (ld (s := { s with toks := tk }) F m4 (wpAny_BinOp (ld (s := { s with toks := tk }) F m2 (wpAny_Constant_int (PyProof.Rows.sub_int (PyProof.Rows.eq_int (wpAny_truthy_bool ?_)))))))))
      cases ((i : Int) == a - 1) with
      | false => exact isTrue_or_nil (fin _)
      | true =>
        refine isTrue_and (wpAny_isTrue_Compare1 (wpAny_BinOp (Call_ (nmG (s := { s with toks := _ }) G (fun _ _ k => k.cell) ?_))))
        obtain ⟨fo, fpm, fdoc, fho, fhd, _⟩ := G.fcell
        refine callWith_def_at fho fhd ?_
        refine spliced_more (ld (s := { s with toks := _ }) F m1 (spliced_more (wpAny_Constant_int (spliced_none ⟨fho, ?_⟩))))
        refine cell_spec (s := { s with toks := _ }) (a := 1) G hroom hl hi hn (by decide) (fun h' tk' t' k' => ?_)
        have F' : Fr h₀ L h' m := F.after k'
        have fin' : ∀ tk, Keeps s { s with heap := h', toks := tk } := fun tk => ⟨_, _, rfl, k'⟩
        refine wpAny_Constant_int (mod_int' (by decide) (wpAny_Constant_int (PyProof.Rows.eq_int (wpAny_truthy_bool ?_))))
        cases ((cellV ns 1).fmod 5 == 4) with
        | false => exact isTrue_or_nil (fin' _)
        | true =>
          refine isTrue_and (wpAny_isTrue_Compare1 (wpAny_BinOp (ld (s := { s with heap := h', toks := _ }) F' m3 (wpAny_Constant_int (mod_int' (by decide) (wpAny_Constant_int (PyProof.Rows.eq_int (wpAny_truthy_bool ?_))))))))
          cases (z.fmod 3 == 0) with
          | false => exact isTrue_or_nil (fin' _)
          | true => exact isTrue_and_nil (fin' _)
    refine isTrue_or (isTrue_and (wpAny_isTrue_Compare1 (ld F m4 (ld F m2 (PyProof.Rows.gt_int (wpAny_truthy_bool ?_))))))
    cases decide ((a : Int) < i) with
    | false => exact second s.toks _ _
    | true =>
      refine isTrue_and (wpAny_isTrue_Compare1 (wpAny_BinOp (wpAny_BinOp (ld F m3 (wpAny_Constant_int (floordiv_int (by decide) (wpAny_Constant_int (mod_int' (by decide) (wpAny_Constant_int (PyProof.Rows.eq_int (wpAny_truthy_bool ?_)))))))))))
      cases ((z.fdiv 2).fmod 2 == 1) with
      | false => exact second _ _ _
      | true => exact isTrue_and_nil (fin _)
  · obtain ⟨h', tk, rfl, k'⟩ := hb
    have F' : Fr h₀ L h' m := F.after k'
    have tail : ∀ h'' tk js', Fr h₀ L h'' m → Incr js' (i + 1) → LStr h'' lo (js'.map nm) → (∀ b o, b ≠ L → b ≠ lo → s.heap.get? b = some o → h''.get? b = some o) →
        wpAny (model prog w) A (execs (leanInner.drop 1) (eLean L)) (fun f s' => f = .next ∧ ∃ h' tk z' t' js', s' = { s with heap := h', toks := tk } ∧ Fr h₀ L h' (fun y => if y = "told" then some (.int z' t') else m y) ∧ 0 ≤ z' ∧ z' < 1000003 ∧ Incr js' (i + 1) ∧ LStr h' lo (js'.map nm) ∧
          ∀ b o, b ≠ L → b ≠ lo → s.heap.get? b = some o → h'.get? b = some o) No { s with heap := h'', toks := tk } := by
      intro h'' tk js' F'' hj hl'' hk
      refine wpAny_execs_cons (wpAny_Assign_Name (wpAny_BinOp (ld (s := { s with heap := h'', toks := _ }) F'' m3 (wpAny_Constant_int (floordiv_int (by decide) ?_)))))
      have hll := ns_ne_list F''.ns hl''
      refine wpAny_storeName_local (s := { s with heap := h'', toks := _ }) (by rfl) F''.ns (fun h3 hn hs => wpAny_execs_nil ⟨rfl, h3, _, _, _, js', rfl, F''.set hn hs, ?_, ?_, hj, hl''.at fun o e => (hs.2 lo hll).trans e, fun b o hb1 hb2 e => (hs.2 b hb1).trans (hk b o hb1 hb2 e)⟩)
      · rw [Int.fdiv_eq_ediv_of_nonneg _ (by decide)]; omega
      · rw [Int.fdiv_eq_ediv_of_nonneg _ (by decide)]; omega
    cases b with
    | false => exact wpAny_execs_nil (tail h' _ js F' ⟨hjs.1, fun j hj => Nat.lt_succ_of_lt (hjs.2 j hj)⟩ (hlo.at fun o e => k' _ o e) fun b o _ _ e => k' b o e)
    | true =>
      have hlo' := hlo.at (h' := h') fun o e => k' _ o e
      obtain ⟨us, ⟨n, hon⟩, hus⟩ := id hlo'
      refine wpAny_execs_cons (wpAny_Expr (MethodCall_ (ld (s := { s with heap := h', toks := _ }) F' m5 (getMethod_list_append hon rfl rfl ?_))))
      refine callWith_method1 (spliced_more (wpAny_BinOp ?_))
      have hnL : lo ≠ L := ns_ne_list F'.ns hlo'
      refine wpAny_Constant_str (nmName (s := { s with heap := h', toks := _ }) (G.keeps k') F' m4 hi7 fun t' tk' => ?_)
      refine spliced_none (wpAny_list_append_plain (s := { s with heap := h', toks := _ }) ⟨n, hon⟩ (fun h3 hl3 hs3 => ?_) ?_)
      · have e3 : us.toArray.push (Value.str (nm i) t') = (us ++ [Value.str (nm i) t']).toArray := by simp
        refine wpAny_execs_nil (tail h3 _ (js ++ [i]) ?_ ?_ ?_ ?_)
        · exact ⟨F'.ns.sameBut hs3 (Ne.symm hnL), fun b o e => (hs3.2 b (by rintro rfl; rw [hnew] at e; cases e)).trans (F'.keep b o e), F'.above⟩
        · refine ⟨List.pairwise_append.mpr ⟨hjs.1, by simp, fun a ha b hb => by simp at hb; subst hb; exact hjs.2 a ha⟩, fun j hj => ?_⟩
          rcases List.mem_append.mp hj with h | h
          · exact Nat.lt_succ_of_lt (hjs.2 j h)
          · simp at h; omega
        · exact ⟨_, e3 ▸ hl3, by rw [List.map_append]; exact strsAre_snoc hus⟩
        · exact fun b o _ hb e => (hs3.2 b hb).trans (k' b o e)
      · have e1 := strsAre_length hus
        have e2 : js.length ≤ 7 := Nat.le_trans hjs.len (Nat.le_of_lt hi7)
        rw [List.size_toArray, e1, List.length_map]
        exact Nat.le_trans e2 (by decide)
end
end Mine
namespace Mine
open PySem PySem.W PyProof.Rows PySem.Calls

inductive DRel (h : Heap) : List (Str × Value) → List (Nat × List Nat) → Prop
  | nil : DRel h [] []
  | cons {l : Addr} {n : Nat} {js : List Nat} {kvs : List (Str × Value)} {D : List (Nat × List Nat)} : LStr h l (js.map nm) → DRel h kvs D → DRel h ((nm n, .ref l) :: kvs) ((n, js) :: D)

theorem DRel.keep {h h' : Heap} {kvs D} (x : DRel h kvs D) (hk : ∀ l, (∃ k, (k, Value.ref l) ∈ kvs) → ∀ o, h.get? l = some o → h'.get? l = some o) : DRel h' kvs D := by
  induction x with
  | nil => exact .nil
  | cons a _ ih => exact .cons (a.at fun o e => hk _ ⟨_, .head _⟩ o e) (ih fun l ⟨k, hm⟩ => hk l ⟨k, .tail _ hm⟩)
theorem DRel.snoc {h : Heap} {kvs D} (x : DRel h kvs D) {l n js} (a : LStr h l (js.map nm)) : DRel h (kvs ++ [(nm n, .ref l)]) (D ++ [(n, js)]) := by
  induction x with
  | nil => exact .cons a .nil
  | cons b _ ih => exact .cons b ih
theorem DRel.keys {h : Heap} {kvs D} (x : DRel h kvs D) : kvs.map (·.1) = D.map fun p => nm p.1 := by
  induction x with
  | nil => rfl
  | cons _ _ ih => simp [ih]
theorem DRel.length {h : Heap} {kvs D} (x : DRel h kvs D) : kvs.length = D.length := by
  have := congrArg List.length x.keys
  simpa using this
theorem DRel.lists {h : Heap} {kvs D} (x : DRel h kvs D) : ∀ k l, (k, Value.ref l) ∈ kvs → ∃ xs, LStr h l xs := by
  induction x with
  | nil => intro _ _ h; cases h
  | cons a _ ih =>
    intro k l hm
    rcases List.mem_cons.mp hm with e | hm
    · cases e; exact ⟨_, a⟩
    · exact ih k l hm

def Deep (prog : Program) (w : World) (W : List Addr) (h : Heap) (d : Addr) (D : List (Nat × List Nat)) : Prop :=
  ∃ kvs, h.DictOf (strKind prog w) d kvs ∧ DRel h kvs D ∧ (∀ k l, (k, Value.ref l) ∈ kvs → l ∉ W) ∧ d ∉ W

section
variable {prog : Program} {w : World} {h h' : Heap} {d : Addr} {D : List (Nat × List Nat)} {W : List Addr}

theorem Deep.frame (x : Deep prog w W h d D) (hk : ∀ b o, b ∉ W → h.get? b = some o → h'.get? b = some o) : Deep prog w W h' d D :=
  let ⟨kvs, a, b, c, e⟩ := x
  ⟨kvs, a.at fun o q => hk d o e q, b.keep fun l ⟨k, hm⟩ o q => hk l o (c k l hm) q, c, e⟩
theorem dict_lt {kvs : List (Str × Value)} (a : h.DictOf (strKind prog w) d kvs) : d < h.objs.size := let ⟨_, _, _, ho, _⟩ := a; Heap.lt_size ho
theorem LStr.lt {l xs} (a : LStr h l xs) : l < h.objs.size := let ⟨_, ⟨_, ho⟩, _⟩ := a; Heap.lt_size ho
theorem Deep.fresh (x : Deep prog w W h d D) {b : Addr} (hb : h.get? b = none) : Deep prog w (b :: W) h d D :=
  let ⟨kvs, a, r, c, e⟩ := x
  ⟨kvs, a, r, fun k l hm hq => by
    rcases List.mem_cons.mp hq with q | q
    · obtain ⟨xs, vs, ⟨n, y⟩, _⟩ := r.lists k l hm
      rw [q, hb] at y; cases y
    · exact c k l hm q, fun hq => by
    rcases List.mem_cons.mp hq with q | q
    · obtain ⟨o, _, _, ho, _⟩ := a
      rw [q, hb] at ho; cases ho
    · exact e q⟩
theorem get_none {h : Heap} {b : Addr} (hb : h.objs.size ≤ b) : h.get? b = none := by
  cases e : h.get? b with
  | none => rfl
  | some o => exact absurd (Heap.lt_size e) (Nat.not_lt.mpr hb)
theorem get_none_of {h h' : Heap} {b : Addr} (hk : ∀ b o, h.get? b = some o → h'.get? b = some o) (hb : h'.objs.size ≤ b) : h.get? b = none := by
  cases e : h.get? b with
  | none => rfl
  | some o => exact absurd (Heap.lt_size (hk b o e)) (Nat.not_lt.mpr hb)
theorem Deep.sub {W' : List Addr} (x : Deep prog w W h d D) (hs : ∀ b ∈ W', b ∈ W) : Deep prog w W' h d D :=
  let ⟨kvs, a, r, c, e⟩ := x
  ⟨kvs, a, r, fun k l hm hq => c k l hm (hs l hq), fun hq => e (hs d hq)⟩
theorem Deep.withNs {L : Addr} {m} (x : Deep prog w W h d D) (n : h.Ns L m) (hd : d ≠ L) : Deep prog w (L :: W) h d D :=
  let ⟨kvs, a, r, c, e⟩ := x
  ⟨kvs, a, r, fun k l hm hq => by
    rcases List.mem_cons.mp hq with q | q
    · obtain ⟨xs, y⟩ := r.lists k l hm
      exact ns_ne_list n y q
    · exact c k l hm q, fun hq => by
    rcases List.mem_cons.mp hq with q | q
    · exact hd q
    · exact e q⟩
end

def DOk (D : List (Nat × List Nat)) (M i : Nat) : Prop := Incr (D.map (·.1)) i ∧ ∀ p ∈ D, Incr p.2 M
theorem DOk.mono {D M i j} (h : DOk D M i) (hij : i ≤ j) : DOk D M j := ⟨⟨h.1.1, fun x hx => Nat.lt_of_lt_of_le (h.1.2 x hx) hij⟩, h.2⟩
theorem DOk.snoc {D M i js} (h : DOk D M i) (hj : Incr js M) : DOk (D ++ [(i, js)]) M (i + 1) := by
  refine ⟨⟨?_, ?_⟩, ?_⟩
  · rw [List.map_append]
    exact List.pairwise_append.mpr ⟨h.1.1, by simp, fun a ha b hb => by simp at hb; subst hb; exact h.1.2 a ha⟩
  · intro x hx
    rw [List.map_append] at hx
    rcases List.mem_append.mp hx with q | q
    · exact Nat.lt_succ_of_lt (h.1.2 x q)
    · simp at q; omega
  · intro p hp
    rcases List.mem_append.mp hp with q | q
    · exact h.2 p q
    · simp at q; subst q; exact hj

theorem nm_inj {i j : Nat} (hi : i < 7) (hj : j < 7) (e : nm i = nm j) : i = j := by
  have : ∀ i < 7, ∀ j < 7, nm i = nm j → i = j := by decide
  exact this i hi j hj e

theorem Glo.notSys {h : Heap} (G : Glo h) {d : Addr} (hd : h.objs.size ≤ d) : (d == sysModules) = false := by
  have h1 : 26 < d := by
    obtain ⟨o, _, _, ho, _⟩ := G.fcell
    exact Nat.lt_of_lt_of_le (Heap.lt_size ho) hd
  have h2 : sysModules = 1 := rfl
  rw [h2]
  exact beq_eq_false_iff_ne.mpr (Nat.ne_of_gt (Nat.lt_trans (by decide : (1 : Nat) < 26) h1))
end Mine
namespace Mine
open PySem PySem.W PyProof.Rows PySem.Calls

theorem reads_strs {h : Heap} {a : Addr} {vs : List Value} {xs : List Str} (hl : h.PlainList a vs.toArray) (hi : StrsAre vs xs) : Reads h (.ref a) (.list (xs.map PyData.str)) [a] := by
  obtain ⟨n, ho⟩ := hl
  exact Reads.list ho rfl rfl (by simpa using StrsAre.reads h hi)
def IsN (x : Str) : Prop := ∃ i < 7, x = nm i
theorem IsN.ok {x : Str} (h : IsN x) : PyData.strOk x = true := by
  obtain ⟨i, hi, rfl⟩ := h
  have : ∀ i < 7, PyData.strOk (nm i) = true := by decide +kernel
  exact this i hi
theorem canLayAll0_strs : ∀ xs : List Str, (∀ x ∈ xs, PyData.strOk x = true) → PyData.canLayAll0 (xs.map PyData.str) = true
  | [], _ => by simp [PyData.canLayAll0]
  | x :: r, h => by simp [PyData.canLayAll0, PyData.canLay0, canLayAll0_strs r fun y hy => h y (.tail _ hy), h x (.head _)]
theorem depthAll_strs : ∀ xs : List Str, PyData.depthAll (xs.map PyData.str) = 0
  | [] => by simp [PyData.depthAll]
  | _ :: r => by
    have := depthAll_strs r
    simp only [List.map_cons, PyData.depthAll, PyData.depth]
    omega
theorem shaped_strs (xs : List Str) (hx : ∀ x ∈ xs, PyData.strOk x = true) : PySem.SeqAt.shaped (.list (xs.map PyData.str)) = true := by
  simp [PySem.SeqAt.shaped, PyData.canLay0, PyData.depth, canLayAll0_strs xs hx, depthAll_strs]
theorem isN_map {js : List Nat} {M : Nat} (h : Incr js M) (hM : M ≤ 7) : ∀ x ∈ js.map nm, IsN x := fun x hx => by
  obtain ⟨j, hj, rfl⟩ := List.mem_map.mp hx
  exact ⟨j, Nat.lt_of_lt_of_le (h.2 j hj) hM, rfl⟩
def forB' : Stmt → List Stmt
  | .If _ b _ _ => b
  | _ => []
section
variable {prog : Program} {w : World} {A : Around} {s : Shared} {h₀ : Heap} {L : Addr} {m : Str → Option Value}

theorem newList_raw {M : Model} {E : Value → Shared → Prop} {vs : List Value} {Q : Value → Shared → Prop} (hQ : ∀ l h', l = s.heap.objs.size → h'.PlainList l vs.toArray → (∀ b o, s.heap.get? b = some o → h'.get? b = some o) → h'.objs.size = l + 1 → Q (.ref l) { s with heap := h' })
    (hsz : vs.length ≤ sizeLine) : wpAny M A (newList vs) Q E s :=
  wpAny_newObj_type (hQ _ _ rfl ⟨0, Heap.get?_push_size _ rfl⟩ (fun b o e => Heap.get?_push_of_some _ e) (Heap.size_push _ _)) (by show vs.toArray.size ≤ sizeLine; rw [List.size_toArray]; exact hsz)
theorem newTuple_raw {M : Model} {E : Value → Shared → Prop} {vs : List Value} {Q : Value → Shared → Prop} (hQ : ∀ l h', l = s.heap.objs.size → h'.get? l = some { cls := .type "tuple", data := .seq vs.toArray } → (∀ b o, s.heap.get? b = some o → h'.get? b = some o) → h'.objs.size = l + 1 → Q (.ref l) { s with heap := h' })
    (hsz : vs.length ≤ sizeLine) : wpAny M A (newTuple vs) Q E s :=
  wpAny_newObj_type (hQ _ _ rfl (Heap.get?_push_size _ rfl) (fun b o e => Heap.get?_push_of_some _ e) (Heap.size_push _ _)) (by show vs.toArray.size ≤ sizeLine; rw [List.size_toArray]; exact hsz)

theorem leanOuter_head {l : Addr} {vs : List Value} {ns : List Int} {a : Nat} {ta : Tok} {Q : Flow → Shared → Prop} (hh : A.handled = none) (G : Glo s.heap) (hroom : A.depth < recursionLimit)
    (F : Fr h₀ L s.heap m) (hl : s.heap.IsList l vs.toArray) (hi : IntsAre vs ns) (hn : ns.length ≤ 63)
    (m1 : m "script" = some (.ref l)) (m2 : m "at" = some (.int (a : Int) ta)) (ha : a < 7)
    (hQ : ∀ lo h' tk z t, 0 ≤ z → z < 1000003 → s.heap.get? lo = none → LStr h' lo [] → (∀ b o, b ≠ L → s.heap.get? b = some o → h'.get? b = some o) →
      Fr h₀ L h' (fun y => if y = "told" then some (.int z t) else if y = "lot" then some (.ref lo) else m y) → Q .next { s with heap := h', toks := tk }) :
    wpAny (model prog w) A (exec (leanOuter.getD 0 (.Pass default)) (eLean L)) Q No s := by
  refine Assign_Tuple_swapped (Tuple_ (spliced_more (Call_ (nmG G (fun _ _ k => k.cell) ?_))))
  obtain ⟨fo, fpm, fdoc, fho, fhd, _⟩ := G.fcell
  refine callWith_def_at fho fhd ?_
  refine spliced_more (ld F m1 (spliced_more (wpAny_BinOp (wpAny_Constant_int (ld (s := { s with toks := _ }) F m2 (PyProof.Rows.add_int (spliced_none ⟨fho, ?_⟩)))))))
  refine cell_spec (s := { s with toks := _ }) (a := 2 + a) G hroom hl hi hn (by omega) (fun h1 tk1 t1 k1 => ?_)
  refine spliced_more (List_ (spliced_none (newList_raw (s := { s with heap := h1, toks := _ }) (fun lo h2 e2 hl2 k2 z2 => ?_) (by decide))))
  refine spliced_none (newTuple_raw (s := { s with heap := h2, toks := _ }) (fun tp h3 e3 ht3 k3 z3 => ?_) (show 2 ≤ sizeLine by decide))
  refine unpackItems_tuple (s := { s with heap := h3, toks := _ }) (items := [Value.int (cellV ns (2 + a)) t1, Value.ref lo].toArray) hh ⟨_, ht3, rfl, _, rfl⟩ (fun h4 x4 => ?_)
  have k4 : ∀ b o, h3.get? b = some o → h4.get? b = some o := fun b o e => x4 b o (Nat.ne_of_lt (Heap.lt_size e)) e
  have kk : ∀ b o, s.heap.get? b = some o → h4.get? b = some o := fun b o e => k4 b o (k3 b o (k2 b o (k1 b o e)))
  have F4 : Fr h₀ L h4 m := F.after kk
  have hl4 : LStr h4 lo [] := ⟨[], hl2.at fun o e => k4 _ o (k3 _ o e), .nil⟩
  have hLlo : lo ≠ L := ns_ne_list F4.ns hl4
  refine assignInOrder_cons (wpAny_bindName (wpAny_storeName_local (s := { s with heap := h4, toks := _ }) (by rfl) F4.ns (fun h5 hn5 hs5 => ?_)))
  have F5 := F4.set hn5 hs5
  refine assignInOrder_cons (wpAny_bindName (wpAny_storeName_local (s := { s with heap := h5, toks := _ }) (by rfl) F5.ns (fun h6 hn6 hs6 => ?_)))
  have F6 := F5.set hn6 hs6
  refine assignInOrder_nil (hQ lo h6 _ _ t1 (cellV_nonneg ns (2 + a)) (cellV_lt ns (2 + a) (by omega)) ?_ (hl4.at fun o e => (hs6.2 _ hLlo).trans ((hs5.2 _ hLlo).trans e)) (fun b o hb e => (hs6.2 _ hb).trans ((hs5.2 _ hb).trans (kk b o e))) F6)
  exact get_none_of k1 (Nat.le_of_eq e2.symm)

theorem leanOuter_for {l lo : Addr} {vs : List Value} {ns : List Int} {a M : Nat} {z : Int} {ta tz tM : Tok} {fd : Value} {Q : Flow → Shared → Prop} (hh : A.handled = none) (G : Glo h₀) (hroom : A.depth < recursionLimit)
    (F : Fr h₀ L s.heap m) (hl : h₀.IsList l vs.toArray) (hi : IntsAre vs ns) (hn : ns.length ≤ 63)
    (m1 : m "script" = some (.ref l)) (m2 : m "at" = some (.int (a : Int) ta)) (m3 : m "told" = some (.int z tz)) (m4 : m "many" = some (.int (M : Int) tM)) (m5 : m "lot" = some (.ref lo)) (m6 : m "found" = some fd)
    (hM : M ≤ 7) (hz0 : 0 ≤ z) (hz1 : z < 1000003) (hlo : LStr s.heap lo []) (hnew : h₀.get? lo = none)
    (hQ : ∀ h' tk m' js, Incr js M → LStr h' lo (js.map nm) → (∀ b o, b ≠ L → b ≠ lo → s.heap.get? b = some o → h'.get? b = some o) → Fr h₀ L h' m' →
      m' "script" = some (.ref l) → m' "at" = some (.int (a : Int) ta) → m' "many" = some (.int (M : Int) tM) → m' "lot" = some (.ref lo) → m' "found" = some fd → Q .next { s with heap := h', toks := tk }) :
    wpAny (model prog w) A (exec (leanOuter.getD 1 (.Pass default)) (eLean L)) Q No s := by
  have hLlo : lo ≠ L := ns_ne_list F.ns hlo
  refine forX (h₀ := h₀) (by rfl) (by rfl) (rangeIter (n := M) hh (G.keeps F.keep) (by omega) (fun h => ld F m4 (h _ _)) (by rfl) (fun I h1 tk1 hI k1 W st0 => ?_))
  have hIlo : lo ≠ I := fun e => by have := hlo.lt; rw [e] at this; exact absurd this (Nat.not_lt.mpr hI)
  have hLI : L ≠ I := fun e => by have := F.ns.lt; rw [e] at this; exact absurd this (Nat.not_lt.mpr hI)
  refine ⟨I, _, _, M, _, _, m, (fun i m' h => m' "script" = some (.ref l) ∧ m' "at" = some (.int (a : Int) ta) ∧ m' "many" = some (.int (M : Int) tM) ∧ m' "lot" = some (.ref lo) ∧ m' "found" = some fd ∧
      (∃ z t, 0 ≤ z ∧ z < 1000003 ∧ m' "told" = some (.int z t)) ∧ ∃ js, Incr js i ∧ LStr h lo (js.map nm) ∧ ∀ b o, b ≠ L → b ≠ lo → s.heap.get? b = some o → h.get? b = some o), rfl, W, ?_, ?_, ?_, st0, F.after k1, ?_, ?_, ?_⟩
  · intro hm; exact hLI (List.mem_singleton.mp hm)
  · intro b hb; rw [List.mem_singleton.mp hb]; exact get_none_of F.keep hI
  · rintro i m' h h' ⟨a1, a2, a3, a4, a5, a6, js, b1, b2, b3⟩ hk
    refine ⟨a1, a2, a3, a4, a5, a6, js, b1, b2.at fun o e => hk lo o hLlo (fun q => hIlo (List.mem_singleton.mp q)) e, fun b o q1 q2 e => hk b o q1 (fun q => ?_) (b3 b o q1 q2 e)⟩
    exact absurd (Heap.lt_size e) (Nat.not_lt.mpr (List.mem_singleton.mp q ▸ hI))
  · exact ⟨m1, m2, m4, m5, m6, ⟨z, tz, hz0, hz1, m3⟩, [], ⟨.nil, fun _ h => nomatch h⟩, hlo.at fun o e => k1 _ o e, fun b o _ _ e => k1 b o e⟩
  · rintro i v m₁ h₁ tk₁ hi' ⟨ti, rfl⟩ ⟨a1, a2, a3, a4, a5, ⟨z', t', c1, c2, c3⟩, js, b1, b2, b3⟩ F₁ st₁
    refine wpAny_mono (leanInner_turn (s := { s with heap := h₁, toks := tk₁ }) (m := fun y => if y = "other" then some (.int (i : Int) ti) else m₁ y) (G.keeps F₁.keep) hroom F₁ (hl.at fun o e => F₁.keep _ o e) hi hn a1 a2 c3 rfl a4 c1 c2 b2 hnew b1 (Nat.lt_of_lt_of_le hi' hM)) (fun f s₂ hp => ?_) fun _ _ e => e
    obtain ⟨rfl, h', tk', z2, t2, js', rfl, F', d1, d2, d3, d4, d5⟩ := hp
    refine ⟨rfl, h', tk', _, rfl, F', ⟨a1, a2, a3, a4, a5, ⟨z2, t2, d1, d2, rfl⟩, js', d3, d4, fun b o q1 q2 e => d5 b o q1 q2 (b3 b o q1 q2 e)⟩, ?_⟩
    exact W.frame _ _ _ st₁ fun b hb o e => by
      rw [List.mem_singleton.mp hb] at e ⊢
      exact d5 I o (Ne.symm hLI) (Ne.symm hIlo) e
  · rintro h' tk m' F' ⟨a1, a2, a3, a4, a5, _, js, b1, b2, b3⟩
    exact hQ h' tk m' js b1 b2 b3 F' a1 a2 a3 a4 a5

theorem leanOuter_if {l lo d : Addr} {vs : List Value} {ns : List Int} {a M : Nat} {ta : Tok} {js : List Nat} {D : List (Nat × List Nat)} {W : List Addr} {Q : Flow → Shared → Prop} (hu : A.units + 64 < cLine) (G : Glo h₀) (hroom : A.depth < recursionLimit)
    (F : Fr h₀ L s.heap m) (hl : h₀.IsList l vs.toArray) (hi : IntsAre vs ns) (hn : ns.length ≤ 63)
    (m1 : m "script" = some (.ref l)) (m2 : m "at" = some (.int (a : Int) ta)) (m5 : m "lot" = some (.ref lo)) (m6 : m "found" = some (.ref d))
    (ha : a < M) (hM : M ≤ 7) (hlo : LStr s.heap lo (js.map nm)) (hjs : Incr js M) (hD : Deep prog w W s.heap d D) (hL : L ∈ W) (hd0 : h₀.get? d = none) (hloW : lo ∉ W) (ok : DOk D M a)
    (hQ : ∀ h' tk D', DOk D' M (a + 1) → Deep prog w W h' d D' → (∀ b o, b ≠ d → s.heap.get? b = some o → h'.get? b = some o) → Fr h₀ L h' m → Q .next { s with heap := h', toks := tk }) :
    wpAny (model prog w) A (exec (leanOuter.getD 2 (.Pass default)) (eLean L)) Q No s := by
  have no : ∀ h' tk, (∀ b o, s.heap.get? b = some o → h'.get? b = some o) → Q .next { s with heap := h', toks := tk } := fun h' tk k =>
    hQ h' tk D ⟨⟨ok.1.1, fun x hx => Nat.lt_succ_of_lt (ok.1.2 x hx)⟩, ok.2⟩ (hD.frame fun b o _ e => k b o e) (fun b o _ e => k b o e) (F.after k)
  have yes : ∀ h1 tk, (∀ b o, s.heap.get? b = some o → h1.get? b = some o) → wpAny (model prog w) A (execs (forB' (leanOuter.getD 2 (.Pass default))) (eLean L)) Q No { s with heap := h1, toks := tk } := by
    intro h1 tk k1
    have F1 := F.after k1
    have D1 : Deep prog w W h1 d D := hD.frame fun b o _ e => k1 b o e
    refine wpAny_execs_cons (wpAny_Assign_Subscript (ld (s := { s with heap := h1, toks := _ }) F1 m5 (ld (s := { s with heap := h1, toks := _ }) F1 m6 (wpAny_BinOp (wpAny_Constant_str
      (nmName (s := { s with heap := h1, toks := _ }) (G.keeps F1.keep) F1 m2 (Nat.lt_of_lt_of_le ha hM) fun t tk2 => ?_))))))
    obtain ⟨kvs, dd, dr, dW, dn⟩ := id D1
    have hlen : kvs.length ≤ 7 := by rw [dr.length]; have := ok.1.len; rw [List.length_map] at this; omega
    refine wpAny_setItem_pairs (s := { s with heap := h1, toks := _ }) (strKind_is prog w _ _) dd (fun h2 dd2 hs2 => ?_) (Nat.le_trans hlen (by decide))
    have hne : lo ≠ d := fun e => by
      obtain ⟨o1, _, _, ho1, _, hd1, _⟩ := dd
      obtain ⟨_, ⟨_, hlo1⟩, _⟩ := hlo
      have := k1 _ _ hlo1
      rw [e, ho1] at this
      cases this
      cases hd1
    have hkeep : ∀ b o, b ≠ d → s.heap.get? b = some o → h2.get? b = some o := fun b o hb e => (hs2.2 b hb).trans (k1 b o e)
    have hdL : d ≠ L := fun e => dn (e ▸ hL)
    refine wpAny_execs_nil (hQ h2 _ (D ++ [(a, js)]) (ok.snoc hjs) ?_ hkeep ⟨F1.ns.sameBut hs2 (Ne.symm hdL), fun b o e => (hs2.2 b (by rintro rfl; rw [hd0] at e; cases e)).trans (F1.keep b o e), F1.above⟩)
    have hst : stored kvs (nm a) (Value.ref lo) = kvs ++ [(nm a, .ref lo)] := by
      unfold stored
      rw [if_neg]
      simp only [List.any_eq_true, not_exists, not_and, decide_eq_true_eq]
      rintro p hp e
      have h1 : p.1 ∈ kvs.map (·.1) := List.mem_map.mpr ⟨p, hp, rfl⟩
      rw [dr.keys] at h1
      obtain ⟨q, hq, e2⟩ := List.mem_map.mp h1
      have h3 := ok.1.2 q.1 (List.mem_map.mpr ⟨q, hq, rfl⟩)
      have h4 := nm_inj (Nat.lt_trans h3 (Nat.lt_of_lt_of_le ha hM)) (Nat.lt_of_lt_of_le ha hM) (e2.trans e)
      omega
    rw [hst] at dd2
    refine ⟨_, dd2, (dr.keep fun l' ⟨k, hm⟩ o e => (hs2.2 l' (fun q => ?_)).trans e).snoc (hlo.at fun o e => hkeep lo o hne e), ?_, dn⟩
    · obtain ⟨xs, us, ⟨n, y⟩, _⟩ := dr.lists k l' hm
      obtain ⟨o1, _, _, ho1, _, hd1, _⟩ := dd
      rw [q, ho1] at y; cases y; cases hd1
    · intro k l' hm
      rcases List.mem_append.mp hm with q | q
      · exact dW k l' q
      · simp at q; obtain ⟨_, rfl⟩ := q; exact hloW
  refine wpAny_If (isTrue_or (wpAny_isTrue_Compare1 (ld F m5 (List_ (spliced_none (newList_raw (fun e h1 ee hl1 k1 z1 => ?_) (by decide)))))))
  obtain ⟨us, hus, hsa⟩ := id hlo
  refine ne_dataH_same (s := { s with heap := h1, toks := _ }) (reads_strs (hus.at fun o e => k1 _ o e) hsa) (reads_strs (xs := []) hl1 .nil) (shaped_strs _ ?_) (shaped_strs _ ?_) hu (PySem.SeqAt.noMix_of_shape (.list .str) rfl _ _ (list_map_has fun _ => rfl) (list_map_has fun _ => rfl)) (wpAny_truthy_bool ?_)
  · exact fun x hx => (isN_map hjs hM x hx).ok
  · exact fun x hx => nomatch hx
  cases !PySem.Spec.same (PyData.list ((js.map nm).map PyData.str)) (PyData.list (([] : List Str).map PyData.str)) with
  | true => exact yes h1 _ k1
  | false =>
    have G1 := G.keeps (F.after k1).keep
    obtain ⟨fo, fpm, fdoc, fho, fhd, _⟩ := G1.fcell
    refine isTrue_or (wpAny_isTrue_Compare1 (wpAny_BinOp (Call_ (nmG (s := { s with heap := h1, toks := _ }) G1 (fun _ _ k => k.cell) (callWith_def_at fho fhd ?_)))))
    refine spliced_more (ld (s := { s with heap := h1, toks := _ }) (F.after k1) m1 (spliced_more (wpAny_BinOp (wpAny_Constant_int (ld (s := { s with heap := h1, toks := _ }) (F.after k1) m2 (PyProof.Rows.add_int (spliced_none ⟨fho, ?_⟩)))))))
    refine cell_spec (s := { s with heap := h1, toks := _ }) (a := 2 + a) G1 hroom (hl.at fun o e => k1 _ o (F.keep _ o e)) hi hn (by omega) (fun h2 tk2 t2 k2 => ?_)
    refine wpAny_Constant_int (mod_int' (by decide) (wpAny_Constant_int (PyProof.Rows.gt_int (wpAny_truthy_bool ?_))))
    have k12 : ∀ b o, s.heap.get? b = some o → h2.get? b = some o := fun b o e => k2 b o (k1 b o e)
    cases decide (0 < (cellV ns (2 + a)).fmod 4) with
    | true => exact yes h2 _ k12
    | false => exact isTrue_or_nil (wpAny_execs_nil (no h2 _ k12))
end
end Mine
namespace Mine
open PySem PySem.W PyProof.Rows PySem.Calls

section
variable {prog : Program} {w : World} {A : Around} {s : Shared}

theorem dict0_raw {E : Value → Shared → Prop} {env : Env} {pos : Pos} {Q : Value → Shared → Prop} (hQ : ∀ d h', d = s.heap.objs.size → h'.DictOf (strKind prog w) d [] → (∀ b o, s.heap.get? b = some o → h'.get? b = some o) → h'.objs.size = d + 1 → Q (.ref d) { s with heap := h' }) :
    wpAny (model prog w) A (eval (.Dict [] [] pos) env) Q E s :=
  wpAny_Dict_empty (hQ _ _ rfl (Heap.DictOf.new _) (fun b o e => Heap.get?_push_of_some _ e) (Heap.size_push _ _))
theorem lean_spec {l : Addr} {vs : List Value} {ns : List Int} {Q : Value → Shared → Prop} (hh : A.handled = none) (G : Glo s.heap) (hroom : A.depth + 1 < recursionLimit) (hu : A.units + 67 < cLine)
    (hl : s.heap.IsList l vs.toArray) (hi : IntsAre vs ns) (hn : ns.length ≤ 63)
    (hQ : ∀ h' tk d D M, (∀ b o, s.heap.get? b = some o → h'.get? b = some o) → s.heap.get? d = none → (d == sysModules) = false → M ≤ 7 → DOk D M M → Deep prog w [] h' d D → Q (.ref d) { s with heap := h', toks := tk }) :
    wpAny (model prog w) A (call (.ref 33) [.ref l]) Q No s := by
  obtain ⟨o, pm, doc, ho, hd, hcd⟩ := G.flean
  have hr0 : A.depth < recursionLimit := by omega
  refine wpAny_call (codeAny_mono (call_pos_ret (R := fun r s' => ∃ v, r = .ok (.ret v) ∧ Q v s') hr0 ho hd G.nolimit hcd (by rfl) (locs (by rfl)) (fun h₁ F => ?_) (hcell := by decide)) (fun r s' hr => by obtain ⟨v, rfl, hq⟩ := hr; exact hq))
  have G1 : Glo h₁ := G.keeps F.keep
  obtain ⟨fo, fpm, fdoc, fho, fhd, _⟩ := G1.fcell
  refine wpAny_execs_cons (Assign_Tuple_swapped (Tuple_ (spliced_more (wpAny_BinOp (wpAny_Constant_int (wpAny_BinOp (Call_ (nmG (s := { s with heap := h₁, toks := _ }) G1 (fun _ _ k => k.cell) (callWith_def_at fho fhd ?_)))))))))
  refine spliced_more (ld (s := { s with heap := h₁, toks := _ }) F rfl (spliced_more (wpAny_Constant_int (spliced_none ⟨fho, ?_⟩))))
  have hroom' : (A.deeper (envOf "_law_leaning" (fscope dLean) s.heap.objs.size 33 (.ref 32))).depth < recursionLimit := by rw [depth_deeper]; exact hroom
  have hu' : (A.deeper (envOf "_law_leaning" (fscope dLean) s.heap.objs.size 33 (.ref 32))).units + 64 < cLine := by rw [Around.deeper_units]; omega
  have hh' : (A.deeper (envOf "_law_leaning" (fscope dLean) s.heap.objs.size 33 (.ref 32))).handled = none := hh
  generalize hA' : (A.deeper (envOf "_law_leaning" (fscope dLean) s.heap.objs.size 33 (.ref 32))) = A' at hroom' hu' hh' ⊢
  refine cell_spec (s := { s with heap := h₁, toks := _ }) (a := 0) G1 hroom' (hl.at fun o e => F.keep _ o e) hi hn (by omega) (fun h1 tk1 t1 k1 => ?_)
  refine wpAny_Constant_int (mod_int' (by decide) (PyProof.Rows.add_int ?_))
  refine spliced_more (dict0_raw (s := { s with heap := h1, toks := _ }) fun d h2 hdd dn2 k2 z2 => spliced_none (newTuple_raw (s := { s with heap := h2, toks := _ }) (fun tp h3 e3 ht3 k3 z3 => ?_) (show 2 ≤ sizeLine by decide)))
  have kp : ∀ b o, h1.get? b = some o → h3.get? b = some o := fun b o e => k3 b o (k2 b o e)
  have dnew : h3.DictOf (strKind prog w) d [] := dn2.at fun o e => k3 _ o e
  obtain ⟨M, hM, hM7⟩ : ∃ M : Nat, (1 : Int) + (cellV ns 0).fmod 7 = (M : Int) ∧ M ≤ 7 := by
    have := cellV_nonneg ns 0
    refine ⟨(1 + (cellV ns 0).fmod 7).toNat, ?_, ?_⟩ <;> rw [Int.fmod_eq_emod_of_nonneg _ (by decide)] <;> omega
  refine unpackItems_tuple (s := { s with heap := h3, toks := _ }) (items := [Value.int _ _, Value.ref d].toArray) hh' ⟨_, ht3, rfl, _, rfl⟩ (fun h4 x4 => ?_)
  have k4 : ∀ b o, h3.get? b = some o → h4.get? b = some o := fun b o e => x4 b o (Nat.ne_of_lt (Heap.lt_size e)) e
  have F4 := F.after (fun b o e => k4 b o (kp b o (k1 b o e)))
  have dnone : s.heap.get? d = none := get_none_of (fun b o e => k1 b o (F.keep b o e)) (Nat.le_of_eq hdd.symm)
  have hdL : d ≠ s.heap.objs.size := fun e => by
    have h1 := (F.after k1).ns.lt
    rw [← e, hdd] at h1
    exact Nat.lt_irrefl _ h1
  have d4 : h4.DictOf (strKind prog w) d [] := dnew.at fun o e => k4 _ o e
  refine assignInOrder_cons (wpAny_bindName (wpAny_storeName_local (s := { s with heap := h4, toks := _ }) (by rfl) F4.ns (fun h5 hn5 hs5 => ?_)))
  have F5 := F4.set hn5 hs5
  refine assignInOrder_cons (wpAny_bindName (wpAny_storeName_local (s := { s with heap := h5, toks := _ }) (by rfl) F5.ns (fun h6 hn6 hs6 => ?_)))
  have F6 := F5.set hn6 hs6
  have d6 : h6.DictOf (strKind prog w) d [] := d4.at fun o e => (hs6.2 d hdL).trans ((hs5.2 d hdL).trans e)
  refine assignInOrder_nil ?_
  rw [hM] at F6
  have mM : ∃ tM, (fun y => if y = Str.ofString "many" then some (Value.int (M : Int) tM) else none) (Str.ofString "many") = some (Value.int (M : Int) tM) := ⟨0, rfl⟩
  refine wpAny_execs_cons (forX (h₀ := s.heap) (by rfl) (by rfl) (rangeIter (s := { s with heap := h6, toks := _ }) (n := M) hh' (G.keeps F6.keep) (by omega) (fun h => ld (s := { s with heap := h6, toks := _ }) F6 rfl (h _ _)) (by rfl) (fun I h7 tk7 hI k7 W st0 => ?_)))
  have F7 := F6.after k7
  have d7 : h7.DictOf (strKind prog w) d [] := d6.at fun o e => k7 _ o e
  have hLI : s.heap.objs.size ≠ I := fun e => by have := F6.ns.lt; rw [e] at this; exact absurd this (Nat.not_lt.mpr hI)
  have hdI : d ≠ I := fun e => by have := dict_lt d6; rw [e] at this; exact absurd this (Nat.not_lt.mpr hI)
  refine ⟨I, _, _, M, _, _, _, (fun i m' h => m' "script" = some (.ref l) ∧ (∃ tM, m' "many" = some (.int (M : Int) tM)) ∧ m' "found" = some (.ref d) ∧ ∃ D, DOk D M i ∧ Deep prog w [s.heap.objs.size, I] h d D), rfl, W, ?_, ?_, ?_, st0, F7, ?_, ?_, ?_⟩
  · intro hm; exact hLI (List.mem_singleton.mp hm)
  · intro b hb; rw [List.mem_singleton.mp hb]; exact get_none_of F6.keep hI
  · rintro i m' h h' ⟨a1, a2, a3, D, b1, b2⟩ hk
    exact ⟨a1, a2, a3, D, b1, b2.frame fun b o hb e => hk b o (fun q => hb (by rw [q]; exact .head _)) (fun q => hb (.tail _ q)) e⟩
  · refine ⟨rfl, ⟨_, rfl⟩, rfl, [], ⟨⟨.nil, (fun _ h => nomatch h)⟩, (fun _ h => nomatch h)⟩, [], d7, .nil, (fun _ _ h => nomatch h), ?_⟩
    intro hm
    rcases List.mem_cons.mp hm with q | q
    · exact hdL q
    · exact hdI (List.mem_singleton.mp q)
  · rintro i v m₁ h₁' tk₁ hi' ⟨ti, rfl⟩ ⟨a1, ⟨tM, a2⟩, a3, D, b1, b2⟩ F₁ st₁
    refine wpAny_execs_cons (leanOuter_head (s := { s with heap := h₁', toks := tk₁ }) (a := i) hh' (G.keeps F₁.keep) hroom' F₁ (hl.at fun o e => F₁.keep _ o e) hi hn a1 rfl (Nat.lt_of_lt_of_le hi' hM7) (fun lo h8 tk8 z t hz0 hz1 hlo8 hls k8 F8 => ?_))
    have hloL : lo ≠ s.heap.objs.size := ns_ne_list F8.ns hls
    have hlo0 : s.heap.get? lo = none := by
      cases e : s.heap.get? lo with
      | none => rfl
      | some o => have := F₁.keep lo o e; rw [hlo8] at this; cases this
    have hloI : lo ≠ I := fun e => by
      have st₁' : h₁'.get? I = some _ := st₁
      rw [← e, hlo8] at st₁'
      cases st₁'
    have b8 : Deep prog w [lo, s.heap.objs.size, I] h8 d D := (b2.fresh hlo8).frame fun b o hb e => k8 b o (fun q => hb (by rw [q]; exact .tail _ (.head _))) e
    refine wpAny_execs_cons (leanOuter_for (s := { s with heap := h8, toks := tk8 }) (M := M) hh' G hroom' F8 hl hi hn a1 rfl rfl a2 rfl a3 hM7 hz0 hz1 hls hlo0 (fun h9 tk9 m9 js c1 c2 c3 F9 n1 n2 n3 n4 n5 => ?_))
    have b9 : Deep prog w [s.heap.objs.size, I] h9 d D := (b8.frame fun b o hb e => c3 b o (fun q => hb (by rw [q]; exact .tail _ (.head _))) (fun q => hb (by rw [q]; exact .head _)) e).sub fun b hb => .tail _ hb
    refine wpAny_execs_cons (leanOuter_if (s := { s with heap := h9, toks := tk9 }) (D := D) (W := [s.heap.objs.size, I]) hu' G hroom' F9 hl hi hn n1 n2 n4 n5 hi' hM7 c2 c1 b9 (.head _) dnone ?_ b1 (fun h10 tk10 D' e1 e2 e3 F10 => ?_))
    · intro hm
      rcases List.mem_cons.mp hm with q | q
      · exact hloL q
      · exact hloI (List.mem_singleton.mp q)
    · refine wpAny_execs_nil ⟨rfl, h10, tk10, _, rfl, F10, ⟨n1, ⟨_, n3⟩, n5, D', e1, e2⟩, ?_⟩
      have st' := W.frame _ _ h8 st₁ (fun b hb o e => k8 b o (fun q => hLI (by rw [← q]; exact List.mem_singleton.mp hb)) e)
      have st'' := W.frame _ _ h9 st' (fun b hb o e => c3 b o (fun q => hLI (by rw [← q]; exact List.mem_singleton.mp hb)) (fun q => hloI (by rw [← q]; exact List.mem_singleton.mp hb)) e)
      exact W.frame _ _ h10 st'' (fun b hb o e => e3 b o (fun q => hdI (by rw [← q]; exact List.mem_singleton.mp hb)) e)
  · rintro h' tk m' F' ⟨a1, a2, a3, D, b1, b2⟩
    refine wpAny_execs_cons (wpAny_Return_some (ld (s := { s with heap := h', toks := tk }) F' a3 ⟨_, rfl, ?_⟩))
    exact hQ h' tk d D M F'.keep dnone ((G1.keeps k1).notSys (Nat.le_of_eq hdd.symm)) hM7 b1 (b2.sub fun _ h => nomatch h)
end
end Mine
namespace Mine
open PySem PySem.W PyProof.Rows PySem.Calls

theorem Cl.at {L : Addr} {cs : List (Str × Addr)} {h h' : Heap} {cm : Str → Option Value} (X : Cl L cs h cm) (hk : ∀ b, L < b → ∀ o, h.get? b = some o → h'.get? b = some o) : Cl L cs h' cm :=
  ⟨fun n c e => let ⟨o, ho, hd⟩ := X.cell n c e; ⟨o, hk c (X.above n c (mem_of_lookup e)) o ho, hd⟩, X.apart, X.above⟩

section
variable {prog : Program} {w : World} {A : Around} {E : Value → Shared → Prop} {s : Shared} {env : Env}

/-- a list comprehension over a list object, by values -/
theorem compL {elt iter : Expr} {x : Str} {px : Pos} {ifs : List Expr} {scope : Scope} {cl : List (Str × Addr)} {pos : Pos} {Q : Value → Shared → Prop} (p : Value → Bool) (F : Value → Value → Prop)
    (hh : A.handled = none) (hclos : closureFor scope env = pure cl) (hcell : ∀ y ∈ scope.names, y.2 ≠ .cell) (hkind : scope.kind = .function)
    (hnames : ∀ y ∈ scope.names, y.2 = .local → scope.names.lookup y.1 = some .local) (hx : scope.names.lookup x = some .local)
    (h : wpAny (model prog w) A (eval iter env) (fun xv s₁ => ∃ ax, ∃ vs : List Value, xv = .ref ax ∧ s₁.heap.IsList ax vs.toArray ∧ vs.length ≤ sizeLine ∧
      (∀ C v s₃ m₃ E', v ∈ vs → s₃.heap.Ns C m₃ → m₃ x = some v → (∀ b o, s₁.heap.get? b = some o → s₃.heap.get? b = some o) →
        wpAny (model prog w) A (forIn ifs true fun c r => if r = true then do let ok ← isTrue c (compEnvC scope cl C env) (eval c (compEnvC scope cl C env)); pure (ForInStep.yield ok) else pure (ForInStep.yield r))
          (fun ok s₄ => ok = p v ∧ Keeps s₃ s₄) E' s₃) ∧
      (∀ C v s₃ m₃ E', v ∈ vs → p v = true → s₃.heap.Ns C m₃ → m₃ x = some v → (∀ b o, s₁.heap.get? b = some o → s₃.heap.get? b = some o) →
        wpAny (model prog w) A (eval elt (compEnvC scope cl C env)) (fun y s₄ => F v y ∧ Keeps s₃ s₄) E' s₃) ∧
      (∀ D h' tk (ys : List Value), s₁.heap.get? D = none → h'.PlainList D ys.toArray → Paired F (vs.filter p) ys → (∀ b o, s₁.heap.get? b = some o → h'.get? b = some o) → Q (.ref D) { s₁ with heap := h', toks := tk })) E s)
    (hs : ∀ x, foldedSetIterable iter env x = pure x := by intro _; rfl) :
    wpAny (model prog w) A (eval (.ListComp elt [⟨.Name x px, iter, ifs, 0⟩] scope pos) env) Q E s := by
  refine wpAny_ListComp_free p F hclos hcell hkind hnames hx (wpAny_mono h (fun xv s₁ h₁ => ?_) fun _ _ e => e) hs
  obtain ⟨ax, vs, rfl, hl, hsz, htests, helt, hQ⟩ := h₁
  have hlt : ax < s₁.heap.objs.size := by obtain ⟨_, e, _⟩ := hl; exact Heap.lt_size e
  have up : ∀ (h₃ : Heap), (∀ b o, b ∉ [s₁.heap.objs.size] → (s₁.heap.push { cls := .type "list_iterator", data := .fields #[.ref ax, .int 0 0] }).get? b = some o → h₃.get? b = some o) → ∀ b o, s₁.heap.get? b = some o → h₃.get? b = some o :=
    fun s₃ hk b o e => hk b o (fun hm => by rcases List.mem_cons.mp hm with rfl | hm; exact Nat.lt_irrefl _ (Heap.lt_size e); cases hm) (Heap.get?_push_of_some _ e)
  refine wpAny_pyIter_list hl ⟨s₁.heap.objs.size, [s₁.heap.objs.size, ax], [s₁.heap.objs.size], vs.toArray.size, _, _, rfl, Walks.list hh _ _ (Nat.ne_of_lt hlt) vs.toArray, (by rw [List.size_toArray]; exact hsz), ⟨⟨_, Heap.get?_push_size _ rfl, rfl, rfl⟩, hl.push _⟩, ?_, ⟨?_, ?_⟩, ?_⟩
  · intro b hb
    show b < (s₁.heap.push _).objs.size
    rw [Heap.size_push]
    rcases List.mem_cons.mp hb with rfl | hb
    · exact Nat.lt_succ_self _
    · rcases List.mem_cons.mp hb with rfl | hb
      · exact Nat.lt_succ_of_lt hlt
      · cases hb
  · intro C i v s₃ m₃ E' _ hP hn hm hk _
    exact htests C v s₃ m₃ E' (by simpa using Array.mem_of_getElem? hP) hn hm (up _ hk)
  · intro C i v s₃ m₃ E' _ hP hp hn hm hk _
    exact helt C v s₃ m₃ E' (by simpa using Array.mem_of_getElem? hP) hp hn hm (up _ hk)
  · intro D h' tk ys vs' hnew _ hpl hlen hP hF hk
    have e : vs' = vs := by simpa using list_of_places hlen hP
    subst e
    refine hQ D h' tk ys.toList ?_ (by rw [Array.toArray_toList]; exact hpl) hF (up _ hk)
    cases e : s₁.heap.get? D with
    | none => rfl
    | some o' => rw [Heap.get?_push_of_some _ e] at hnew; cases hnew

theorem Paired.eq {α : Type} : ∀ {xs ys : List α}, Paired (fun v y => y = v) xs ys → ys = xs
  | _, _, .nil => rfl
  | _, _, .cons h t => by rw [h, Paired.eq t]

def onStr (p : Str → Bool) : Value → Bool
  | .str x _ => p x
  | _ => false
theorem strsAre_mem : ∀ {vs : List Value} {xs : List Str}, StrsAre vs xs → ∀ v ∈ vs, ∃ x t, v = .str x t ∧ x ∈ xs
  | _, _, .nil, v, hv => nomatch hv
  | _, _, .cons _ _ h, v, hv => by
    rcases List.mem_cons.mp hv with rfl | hv
    · exact ⟨_, _, rfl, .head _⟩
    · obtain ⟨x, t, e, hm⟩ := strsAre_mem h v hv; exact ⟨x, t, e, .tail _ hm⟩
theorem strsAre_filter (p : Str → Bool) : ∀ {vs : List Value} {xs : List Str}, StrsAre vs xs → StrsAre (vs.filter (onStr p)) (xs.filter p)
  | _, _, .nil => .nil
  | _, _, .cons x t h => by
    have ih := strsAre_filter p h
    cases hp : p x with
    | true => simp only [List.filter_cons, onStr, hp, if_true]; exact .cons _ _ ih
    | false => simp only [List.filter_cons, onStr, hp]; exact ih

theorem compStr {x : Str} {px pe : Pos} {iter c : Expr} {scope : Scope} {cl : List (Str × Addr)} {pos : Pos} {Q : Value → Shared → Prop} (p : Str → Bool)
    (hh : A.handled = none) (hclos : closureFor scope env = pure cl) (hcell : ∀ y ∈ scope.names, y.2 ≠ .cell) (hkind : scope.kind = .function)
    (hnames : ∀ y ∈ scope.names, y.2 = .local → scope.names.lookup y.1 = some .local) (hx : scope.names.lookup x = some .local) (hd : (x == ("__debug__" : Str)) = false)
    (h : wpAny (model prog w) A (eval iter env) (fun xv s₁ => ∃ ax xs, xv = .ref ax ∧ LStr s₁.heap ax xs ∧ xs.length ≤ 100 ∧
      (∀ C y t s₃ m₃ E', y ∈ xs → s₃.heap.Ns C m₃ → m₃ x = some (.str y t) → (∀ b o, s₁.heap.get? b = some o → s₃.heap.get? b = some o) →
        wpAny (model prog w) A (isTrue c (compEnvC scope cl C env) (eval c (compEnvC scope cl C env))) (fun ok s₄ => ok = p y ∧ Keeps s₃ s₄) E' s₃) ∧
      (∀ D h' tk, s₁.heap.get? D = none → LStr h' D (xs.filter p) → (∀ b o, s₁.heap.get? b = some o → h'.get? b = some o) → Q (.ref D) { s₁ with heap := h', toks := tk })) E s)
    (hs : ∀ x, foldedSetIterable iter env x = pure x := by intro _; rfl) :
    wpAny (model prog w) A (eval (.ListComp (.Name x pe) [⟨.Name x px, iter, [c], 0⟩] scope pos) env) Q E s := by
  refine compL (onStr p) (fun v y => y = v) hh hclos hcell hkind hnames hx (wpAny_mono h (fun xv s₁ h₁ => ?_) fun _ _ e => e) hs
  obtain ⟨ax, xs, rfl, ⟨vs, hl, hsa⟩, hlen, ht, hQ⟩ := h₁
  refine ⟨ax, vs, rfl, hl.isList, by rw [← strsAre_length hsa] at hlen; exact Nat.le_trans hlen (by decide), ?_, ?_, ?_⟩
  · intro C v s₃ m₃ E' hv hn hm hk
    obtain ⟨y, t, rfl, hy⟩ := strsAre_mem hsa v hv
    exact wpAny_tests_one (ht C y t s₃ m₃ E' hy hn hm hk)
  · intro C v s₃ m₃ E' hv _ hn hm _
    exact wpAny_Name (wpAny_loadName_local (by simp [compEnvC, relabel, hkind]) (lookup_relabel_local hx) hn hm ⟨rfl, s₃.heap, s₃.toks, rfl, fun _ _ e => e⟩) hd
  · intro D h' tk ys hnew hpl hF hk
    rw [Paired.eq hF] at hpl
    exact hQ D h' tk hnew ⟨_, hpl, strsAre_filter p hsa⟩ hk
end
end Mine
namespace Mine
open PySem PySem.W PyProof.Rows PySem.Calls

def namesStep (ns js : List Nat) : List Nat := ns ++ js.filter fun j => !ns.contains j
def namesOf (D : List (Nat × List Nat)) : List Nat := (D.map (·.2)).foldl namesStep (D.map (·.1))
def depsAt (D : List (Nat × List Nat)) (n : Nat) : Option (List Nat) := (D.find? fun p => p.1 = n).map (·.2)
def depsOf (D : List (Nat × List Nat)) (n : Nat) : List Nat := (depsAt D n).getD []
def fAt (f : List (Nat × Nat)) (n : Nat) : Option Nat := (f.find? fun p => p.1 = n).map (·.2)
def maxL (l : List Nat) : Nat := l.foldl max 0
def dep1 (D : List (Nat × List Nat)) (f : List (Nat × Nat)) (n : Nat) : Nat := if depsOf D n = [] then 0 else 1 + maxL ((depsOf D n).map fun j => (fAt f j).getD 0)
def ready (D : List (Nat × List Nat)) (f : List (Nat × Nat)) (n : Nat) : Bool := (fAt f n).isNone && (depsOf D n).all fun j => (fAt f j).isSome
def turn1 (D : List (Nat × List Nat)) (f : List (Nat × Nat)) (n : Nat) : List (Nat × Nat) := if ready D f n then f ++ [(n, dep1 D f n)] else f

theorem maxL_foldl_le : ∀ (l : List Nat) (a : Nat), a ≤ l.foldl max a ∧ ∀ x ∈ l, x ≤ l.foldl max a
  | [], a => ⟨Nat.le_refl _, fun _ h => nomatch h⟩
  | b :: r, a => by
    have ih := maxL_foldl_le r (max a b)
    refine ⟨Nat.le_trans (Nat.le_max_left a b) ih.1, fun x hx => ?_⟩
    rcases List.mem_cons.mp hx with rfl | hx
    · exact Nat.le_trans (Nat.le_max_right a x) ih.1
    · exact ih.2 x hx
theorem maxL_foldl_mem : ∀ (l : List Nat) (a : Nat), l.foldl max a = a ∨ l.foldl max a ∈ l
  | [], a => .inl rfl
  | b :: r, a => by
    rcases maxL_foldl_mem r (max a b) with h | h
    · rw [List.foldl_cons, h]
      rcases Nat.le_total a b with q | q
      · right; rw [Nat.max_eq_right q]; exact .head _
      · left; rw [Nat.max_eq_left q]
    · right; exact .tail _ h
theorem le_maxL {l : List Nat} {x : Nat} (h : x ∈ l) : x ≤ maxL l := (maxL_foldl_le l 0).2 x h
theorem maxL_mem {l : List Nat} (h : l ≠ []) : maxL l ∈ l := by
  rcases maxL_foldl_mem l 0 with q | q
  · cases l with
    | nil => exact absurd rfl h
    | cons b r =>
      have h1 := (maxL_foldl_le (b :: r) 0).2 b (.head _)
      have : b = 0 := by rw [q] at h1; exact Nat.le_zero.mp h1
      show (b :: r).foldl max 0 ∈ _
      rw [q, ← this]; exact .head _
  · exact q
theorem maxL_unique {l : List Nat} {x : Nat} (h : x ∈ l) (hb : ∀ y ∈ l, y ≤ x) : maxL l = x :=
  Nat.le_antisymm (hb _ (maxL_mem (fun e => by rw [e] at h; cases h))) (le_maxL h)

theorem argBest_le (bt : Nat → Nat → Bool) : ∀ k, argBest bt k ≤ k
  | 0 => Nat.le_refl _
  | k + 1 => by
    show (if bt (k + 1) (argBest bt k) then k + 1 else argBest bt k) ≤ k + 1
    split
    · exact Nat.le_refl _
    · exact Nat.le_succ_of_le (argBest_le bt k)
theorem argBest_max (xs : Array (Int × Tok)) : ∀ k j, j ≤ k → numAt xs j ≤ numAt xs (argBest (fun i j => decide (numAt xs i > numAt xs j)) k)
  | 0, j, h => by cases Nat.le_zero.mp h; exact Int.le_refl _
  | k + 1, j, h => by
    show numAt xs j ≤ numAt xs (if decide (numAt xs (k + 1) > numAt xs (argBest _ k)) = true then k + 1 else argBest _ k)
    split
    · rename_i hc
      rcases Nat.le_succ_iff.mp h with q | rfl
      · exact Int.le_trans (argBest_max xs k j q) (Int.le_of_lt (of_decide_eq_true hc))
      · exact Int.le_refl _
    · rename_i hc
      rcases Nat.le_succ_iff.mp h with q | rfl
      · exact argBest_max xs k j q
      · have : ¬ numAt xs (k + 1) > numAt xs (argBest (fun i j => decide (numAt xs i > numAt xs j)) k) := fun q => hc (decide_eq_true q)
        exact Int.not_lt.mp this

/-- the values of a list of naturals -/
inductive NatsAre : List Value → List Nat → Prop
  | nil : NatsAre [] []
  | cons {n : Nat} {t : Tok} {vs ns} : NatsAre vs ns → NatsAre (.int (n : Int) t :: vs) (n :: ns)
theorem NatsAre.arr : ∀ {vs ns}, NatsAre vs ns → ∃ xs : List (Int × Tok), vs.toArray = intItems xs.toArray ∧ xs.map (·.1) = ns.map fun n : Nat => (n : Int)
  | _, _, .nil => ⟨[], by simp [intItems], rfl⟩
  | _, _, .cons (n := n) (t := t) h => by
    obtain ⟨xs, e1, e2⟩ := h.arr
    refine ⟨((n : Int), t) :: xs, ?_, by simp [e2]⟩
    have e3 := congrArg Array.toList e1
    apply Array.ext'
    simp [intItems] at e3 ⊢
    exact e3

section
variable {prog : Program} {w : World} {A : Around} {E : Value → Shared → Prop} {s : Shared} {l : Addr}

theorem max_nats {vs : List Value} {ns : List Nat} {Q : Value → Shared → Prop} (hh : A.handled = none) (hl : s.heap.IsList l vs.toArray) (hi : NatsAre vs ns) (hne : ns ≠ [])
    (h : ∀ t h' tk, (∀ b o, s.heap.get? b = some o → h'.get? b = some o) → Q (.int (maxL ns : Nat) t) { s with heap := h', toks := tk }) :
    wpAny (model prog w) A (call (.builtin "max") [.ref l]) Q E s := by
  obtain ⟨xs, e1, e2⟩ := hi.arr
  rw [e1] at hl
  have hlen : xs.length = ns.length := by have := congrArg List.length e2; simpa using this
  have hpos : 0 < xs.length := by rw [hlen]; exact List.length_pos_iff.mpr hne
  have num : ∀ i, i < xs.length → ∃ n, n ∈ ns ∧ numAt xs.toArray i = (n : Int) ∧ ns[i]? = some n := by
    intro i hi
    have h1 : (xs.map (·.1))[i]? = (ns.map fun n : Nat => (n : Int))[i]? := by rw [e2]
    rw [List.getElem?_map, List.getElem?_map, List.getElem?_eq_getElem hi, List.getElem?_eq_getElem (hlen ▸ hi)] at h1
    simp only [Option.map_some, Option.some.injEq] at h1
    refine ⟨ns[i]'(hlen ▸ hi), List.getElem_mem _, ?_, List.getElem?_eq_getElem _⟩
    simp [numAt, List.getElem?_eq_getElem hi, h1]
  refine max_intList hh hl (by simpa using hpos) fun v h' tk hv hk => ?_
  obtain ⟨t, rfl⟩ := intItems_at hv
  have hb : argBest (fun i j => decide (numAt xs.toArray i > numAt xs.toArray j)) (xs.toArray.size - 1) < xs.length := by
    have := argBest_le (fun i j => decide (numAt xs.toArray i > numAt xs.toArray j)) (xs.toArray.size - 1)
    rw [List.size_toArray] at this ⊢; omega
  obtain ⟨n, hn, en, _⟩ := num _ hb
  have : maxL ns = n := by
    refine maxL_unique hn fun y hy => ?_
    obtain ⟨j, hj, ej⟩ := List.mem_iff_getElem.mp hy
    obtain ⟨n', _, en', e3⟩ := num j (hlen ▸ hj)
    have hle := argBest_max xs.toArray (xs.toArray.size - 1) j (by rw [List.size_toArray]; omega)
    rw [en, en'] at hle
    rw [List.getElem?_eq_getElem hj, Option.some.injEq, ej] at e3
    subst e3
    exact Int.ofNat_le.mp hle
  rw [en, ← this]
  exact h t h' tk hk

inductive FRel : List (Str × Value) → List (Nat × Nat) → Prop
  | nil : FRel [] []
  | cons {n d : Nat} {t : Tok} {kvs f} : FRel kvs f → FRel ((nm n, .int (d : Int) t) :: kvs) ((n, d) :: f)
theorem FRel.snoc {n d : Nat} {t : Tok} : ∀ {kvs f}, FRel kvs f → FRel (kvs ++ [(nm n, .int (d : Int) t)]) (f ++ [(n, d)])
  | _, _, .nil => .cons .nil
  | _, _, .cons h => .cons h.snoc
theorem FRel.length : ∀ {kvs f}, FRel kvs f → kvs.length = f.length
  | _, _, .nil => rfl
  | _, _, .cons h => by simp [h.length]
theorem FRel.at {n : Nat} (hn : n < 7) : ∀ {kvs f}, FRel kvs f → (∀ p ∈ f, p.1 < 7) →
    (fAt f n = none ∧ valueAt kvs (nm n) = none) ∨ ∃ d t, fAt f n = some d ∧ valueAt kvs (nm n) = some (.int (d : Int) t)
  | _, _, .nil, _ => .inl ⟨rfl, rfl⟩
  | _, _, .cons (n := a) (d := d) (t := t) (kvs := kvs) (f := f) h, hb => by
    have ih := FRel.at hn h fun p hp => hb p (.tail _ hp)
    by_cases e : a = n
    · subst e; right; exact ⟨d, t, by simp [fAt], by simp [valueAt]⟩
    · have e' : ¬ nm a = nm n := fun q => e (nm_inj (hb _ (.head _)) hn q)
      have e1 : fAt ((a, d) :: f) n = fAt f n := by simp [fAt, e]
      have e2 : valueAt ((nm a, Value.int (d : Int) t) :: kvs) (nm n) = valueAt kvs (nm n) := by simp [valueAt, e']
      rw [e1, e2]; exact ih
theorem stored_new {kvs : List (Str × Value)} {k : Str} {v : Value} (h : valueAt kvs k = none) : stored kvs k v = kvs ++ [(k, v)] := by
  unfold stored
  rw [if_neg]
  simp only [List.any_eq_true, not_exists, not_and, decide_eq_true_eq]
  intro p hp e
  simp only [valueAt, Option.map_eq_none_iff, List.find?_eq_none] at h
  exact h p hp (by simpa using e)

theorem DRel.at {h : Heap} {n : Nat} (hn : n < 7) : ∀ {kvs D}, DRel h kvs D → (∀ p ∈ D, p.1 < 7) →
    (depsAt D n = none ∧ valueAt kvs (nm n) = none) ∨ ∃ js l, depsAt D n = some js ∧ valueAt kvs (nm n) = some (.ref l) ∧ LStr h l (js.map nm) ∧ (nm n, Value.ref l) ∈ kvs := by
  intro kvs D x
  induction x with
  | nil => intro _; exact .inl ⟨rfl, rfl⟩
  | @cons l a js kvs D hl _ ih =>
    intro hb
    by_cases e : a = n
    · subst e; right; exact ⟨js, l, by simp [depsAt], by simp [valueAt], hl, .head _⟩
    · have e' : ¬ nm a = nm n := fun q => e (nm_inj (hb _ (.head _)) hn q)
      have e1 : depsAt ((a, js) :: D) n = depsAt D n := by simp [depsAt, e]
      have e2 : valueAt ((nm a, Value.ref l) :: kvs) (nm n) = valueAt kvs (nm n) := by simp [valueAt, e']
      rw [e1, e2]
      rcases ih fun p hp => hb p (.tail _ hp) with q | ⟨js', l', q1, q2, q3, q4⟩
      · exact .inl q
      · exact .inr ⟨js', l', q1, q2, q3, .tail _ q4⟩

theorem same_nil (xs : List Str) : PySem.Spec.same (PyData.list (xs.map PyData.str)) (PyData.list (([] : List Str).map PyData.str)) = decide (xs = []) := by
  cases xs with
  | nil => simp [PySem.Spec.same, PySem.Spec.sameAll]
  | cons a r => simp [PySem.Spec.same, PySem.Spec.sameAll]

theorem eqNil {a b : Addr} {xs : List Str} {Q : Value → Shared → Prop} (ha : LStr s.heap a xs) (hb : LStr s.heap b []) (hok : ∀ x ∈ xs, IsN x) (hu : A.units + 64 < cLine) (h : Q (.bool (decide (xs = []))) s) :
    wpAny (model prog w) A (compareOp .Eq (.ref a) (.ref b)) Q E s := by
  obtain ⟨us, hus, hsa⟩ := id ha
  obtain ⟨vs, hvs, hsb⟩ := id hb
  refine eq_dataH_same (reads_strs hus hsa) (reads_strs hvs hsb) (shaped_strs _ fun x hx => (hok x hx).ok) (shaped_strs _ (fun x hx => nomatch hx)) hu (PySem.SeqAt.noMix_of_shape (.list .str) rfl _ _ (list_map_has fun _ => rfl) (list_map_has fun _ => rfl)) ?_
  rw [same_nil]; exact h
theorem neNil {a b : Addr} {xs : List Str} {Q : Value → Shared → Prop} (ha : LStr s.heap a xs) (hb : LStr s.heap b []) (hok : ∀ x ∈ xs, IsN x) (hu : A.units + 64 < cLine) (h : Q (.bool (!decide (xs = []))) s) :
    wpAny (model prog w) A (compareOp .NotEq (.ref a) (.ref b)) Q E s := by
  obtain ⟨us, hus, hsa⟩ := id ha
  obtain ⟨vs, hvs, hsb⟩ := id hb
  refine ne_dataH_same (reads_strs hus hsa) (reads_strs hvs hsb) (shaped_strs _ fun x hx => (hok x hx).ok) (shaped_strs _ (fun x hx => nomatch hx)) hu (PySem.SeqAt.noMix_of_shape (.list .str) rfl _ _ (list_map_has fun _ => rfl) (list_map_has fun _ => rfl)) ?_
  rw [same_nil]; exact h
/-- the empty list, read back -/
theorem nilList {pos : Pos} {env : Env} {Q : Value → Shared → Prop} (h : ∀ e h', e = s.heap.objs.size → LStr h' e [] → (∀ b o, s.heap.get? b = some o → h'.get? b = some o) → Q (.ref e) { s with heap := h' }) :
    wpAny (model prog w) A (eval (.List [] pos) env) Q E s :=
  List_ (spliced_none (newList_raw (fun e h1 ee hl1 k1 _ => h e h1 ee ⟨[], hl1, .nil⟩ k1) (by decide)))
end
end Mine
namespace Mine
open PySem PySem.W PyProof.Rows PySem.Calls

abbrev eDeps (L : Addr) : Env := envOfC "_law_depths" (fscope dDeps) L 38 (.ref 37)
abbrev cDeps (L : Addr) : List (Str × Addr) := cellsFrom (L + 1) (fscope dDeps).names []
def depsOuter : List Stmt := forB ((fbody dDeps).getD 3 (.Pass default))
def depsInner : List Stmt := forB (depsOuter.getD 0 (.Pass default))

theorem Cl.but {L d : Addr} {cs : List (Str × Addr)} {h h' : Heap} {cm : Str → Option Value} (X : Cl L cs h cm) (hk : ∀ b o, b ≠ d → h.get? b = some o → h'.get? b = some o) {o : Obj} (ho : h.get? d = some o) (hd : ∀ v, o.data ≠ .cell v) : Cl L cs h' cm :=
  ⟨fun n c e => let ⟨oc, hoc, hdc⟩ := X.cell n c e; ⟨oc, hk c oc (fun q => by subst q; rw [ho] at hoc; cases hoc; exact hd _ hdc) hoc, hdc⟩, X.apart, X.above⟩

section
variable {prog : Program} {w : World} {A : Around} {E : Value → Shared → Prop} {s : Shared} {h₀ : Heap} {L : Addr} {m cm : Str → Option Value}

theorem dget2 {K : Type} [DecidableEq K] {knd : KeyKind prog w K} {d : Addr} {kvs : List (K × Value)} {k : K} {key dflt : Value} {Q : Value → Shared → Prop} (hD : s.heap.DictOf knd d kvs) (lo : (d == sysModules) = false) (hkey : knd.is k key = true)
    (h : Q ((valueAt kvs k).getD dflt) { s with toks := s.toks + 1 }) : wpAny (model prog w) A (call (.builtin "dict.get") [.ref d, key, dflt]) Q E s :=
  call_meetsIn PySem.F.slot_dict_get hD.typeIs PySem.F.entry_dict_get (PySem.F.args_dict_get_3 _ _ _) (meets_dict_get_default knd d hkey lo dflt) ⟨_, hD.mapOf, h⟩

theorem dict_noCell {K : Type} [DecidableEq K] {knd : KeyKind prog w K} {h : Heap} {d : Addr} {kvs : List (K × Value)} (hD : h.DictOf knd d kvs) : ∃ o, h.get? d = some o ∧ ∀ v, o.data ≠ .cell v := by
  obtain ⟨o, es, n, ho, hc, hd, _⟩ := hD
  exact ⟨o, ho, fun v e => by rw [hd] at e; cases e⟩

theorem stL {name : Str} {scope : Scope} {a : Addr} {cd : Value} {M : Model} {x : Str} {v : Value} {Q : Unit → Shared → Prop} (F : Fr h₀ L s.heap m) (X : Cl L (cellsFrom (L + 1) scope.names []) s.heap cm)
    (h : ∀ h', Fr h₀ L h' (fun y => if y = x then some v else m y) → Cl L (cellsFrom (L + 1) scope.names []) h' cm → (∀ b o, b ≠ L → s.heap.get? b = some o → h'.get? b = some o) → Q () { s with heap := h', toks := s.toks + 1 })
    (hk : scope.kind = .function := by rfl) (hl : (envOfC name scope L a cd).kindOf x = some .local := by rfl) :
    wpAny M A (storeName (envOfC name scope L a cd) x v) Q E s :=
  wpAny_storeName_local hl F.ns (fun h' hn hs => h h' (F.set hn hs) (X.sameBut hs (Nat.le_refl _)) (fun b o hb e => (hs.2 b hb).trans e))
    (by show (scope.kind == .class || (scope.kind == .module && L != mainGlobals)) = false; rw [hk]; rfl)

theorem nats_paired {g : Nat → Nat} {J : List Nat} {F : Value → Value → Prop} (hF : ∀ v y, F v y → ∃ (x : Nat) (t' : Tok), y = .int (x : Int) t' ∧ ∀ j t, j ∈ J → v = .str (nm j) t → g j = x) :
    ∀ {js : List Nat} {us ys : List Value}, StrsAre us (js.map nm) → (∀ j ∈ js, j ∈ J) → Paired F us ys → NatsAre ys (js.map g)
  | [], _, _, .nil, _, .nil => .nil
  | a :: r, _, _, .cons _ _ h, hJ, .cons q hp => by
    obtain ⟨x, t', rfl, e⟩ := hF _ _ q
    rw [List.map_cons, e a _ (hJ a (.head _)) rfl]
    exact .cons (nats_paired hF h (fun j hj => hJ j (.tail _ hj)) hp)

theorem depsInner_turn {d fd : Addr} {n : Nat} {tn : Tok} {D : List (Nat × List Nat)} {f : List (Nat × Nat)} {kvs : List (Str × Value)} (hh : A.handled = none) (hu : A.units + 64 < cLine) (G : Glo h₀)
    (F : Fr h₀ L s.heap m) (X : Cl L (cDeps L) s.heap cm) (m1 : m "leaning" = some (.ref d)) (m2 : m "name" = some (.str (nm n) tn)) (c1 : cm "found" = some (.ref fd)) (hn : n < 7)
    (hfL : fd ≠ L) (hD : Deep prog w [L, fd] s.heap d D) (hDk : ∀ p ∈ D, p.1 < 7) (hDj : ∀ p ∈ D, ∀ j ∈ p.2, j < 7) (hDl : ∀ p ∈ D, p.2.length ≤ 7) (lo1 : (d == sysModules) = false)
    (hf : s.heap.DictOf (strKind prog w) fd kvs) (hr : FRel kvs f) (hfk : ∀ p ∈ f, p.1 < 7) (hfl : f.length ≤ 7) (lo2 : (fd == sysModules) = false) (hf0 : h₀.get? fd = none) :
    wpAny (model prog w) A (execs depsInner (eDeps L)) (fun fl s' => fl = .next ∧ ∃ h' tk m' kvs', s' = { s with heap := h', toks := tk } ∧ Fr h₀ L h' m' ∧ Cl L (cDeps L) h' cm ∧ (∀ x : Str, x ≠ "lot" → m' x = m x) ∧
      h'.DictOf (strKind prog w) fd kvs' ∧ FRel kvs' (turn1 D f n) ∧ (∀ b o, b ≠ L → b ≠ fd → s.heap.get? b = some o → h'.get? b = some o)) No s := by
  obtain ⟨kvD, dD, dr, _, _⟩ := id hD
  refine wpAny_execs_cons (wpAny_Assign_Name (MethodCall_ (ldLoc F m1 (getMethod_builtin dD.typeIs PySem.F.plainAttrs_dict PySem.F.slot_dict_get PySem.F.type_dict_get dD.mapOf.noDict ?_))))
  refine callWith_method1 (spliced_more (ldLoc F m2 (spliced_more (nilList fun e h1 ee hl1 k1 => spliced_none ?_))))
  refine dget2 (k := nm n) (s := { s with heap := h1 }) (dD.at fun o e => k1 _ o e) lo1 (strKind_is prog w _ _) ?_
  obtain ⟨lo, elo, hlo⟩ : ∃ lo, ((valueAt kvD (nm n)).getD (.ref e)) = .ref lo ∧ LStr h1 lo ((depsOf D n).map nm) := by
    rcases dr.at hn hDk with ⟨q1, q2⟩ | ⟨js, l, q1, q2, q3, _⟩
    · exact ⟨e, by rw [q2]; rfl, by rw [depsOf, q1]; exact hl1⟩
    · exact ⟨l, by rw [q2]; rfl, by rw [depsOf, q1]; exact q3.at fun o e => k1 _ o e⟩
  rw [elo]
  have F1 := F.after k1
  have X1 := X.keeps k1
  refine stL (s := { s with heap := h1, toks := _ }) F1 X1 (fun h2 F2 X2 k2 => ?_)
  have hloL : lo ≠ L := ns_ne_list F1.ns hlo
  have hlo2 : LStr h2 lo ((depsOf D n).map nm) := hlo.at fun o e => k2 _ o hloL e
  have hf2 : h2.DictOf (strKind prog w) fd kvs := (hf.at fun o e => k1 _ o e).at fun o e => k2 _ o hfL e
  refine wpAny_execs_cons (wpAny_If (isTrue_and (wpAny_isTrue_Compare1 (ldLoc (s := { s with heap := h2, toks := _ }) F2 m2 (ldC (s := { s with heap := h2, toks := _ }) X2 (by rfl) c1
    (wpAny_notIn_of (s := { s with heap := h2, toks := _ }) (k := nm n) (strKind_is prog w _ _) lo2 hf2.mapOf (wpAny_truthy_bool ?_)))))))
  have kk2 : ∀ b o, b ≠ L → s.heap.get? b = some o → h2.get? b = some o := fun b o hb e => k2 b o hb (k1 b o e)
  have hdn : ∀ j ∈ depsOf D n, j < 7 := by
    intro j hj
    unfold depsOf depsAt at hj
    cases hq : D.find? (fun p => p.1 = n) with
    | none => rw [hq] at hj; cases hj
    | some p => rw [hq] at hj; exact hDj p (List.mem_of_find?_eq_some hq) j hj
  have hdlen : (depsOf D n).length ≤ 7 := by
    unfold depsOf depsAt
    cases hq : D.find? (fun p => p.1 = n) with
    | none => exact Nat.zero_le _
    | some p => exact hDl p (List.mem_of_find?_eq_some hq)
  have hnok : ∀ x ∈ (depsOf D n).map nm, IsN x := fun x hx => by
    obtain ⟨j, hj, rfl⟩ := List.mem_map.mp hx
    exact ⟨j, hdn j hj, rfl⟩
  have hns : (valueAt kvs (nm n)).isSome = (fAt f n).isSome := by
    rcases hr.at hn hfk with ⟨q1, q2⟩ | ⟨x, t, q1, q2⟩ <;> rw [q1, q2] <;> rfl
  have no : ready D f n = false → ∀ h3 tk, (∀ b o, h2.get? b = some o → h3.get? b = some o) → (fun (fl : Flow) s' => fl = .next ∧ ∃ h' tk m' kvs', s' = { s with heap := h', toks := tk } ∧ Fr h₀ L h' m' ∧ Cl L (cDeps L) h' cm ∧ (∀ x : Str, x ≠ "lot" → m' x = m x) ∧
      h'.DictOf (strKind prog w) fd kvs' ∧ FRel kvs' (turn1 D f n) ∧ (∀ b o, b ≠ L → b ≠ fd → s.heap.get? b = some o → h'.get? b = some o)) Flow.next { s with heap := h3, toks := tk } := by
    intro hrd h3 tk k3
    refine ⟨rfl, h3, tk, _, kvs, rfl, F2.after k3, X2.keeps k3, fun x hx => if_neg hx, hf2.at fun o e => k3 _ o e, by rw [turn1, hrd]; exact hr, fun b o hb _ e => k3 b o (kk2 b o hb e)⟩
  cases hfn : fAt f n with
  | some x =>
    rw [hns, hfn]
    exact wpAny_execs_nil (wpAny_execs_nil (no (by simp [ready, hfn]) h2 _ fun _ _ e => e))
  | none =>
    rw [hns, hfn]
    refine isTrue_and (wpAny_isTrue_Compare1 (compStr (fun x => !(valueAt kvs x).isSome) hh (by rfl) (by decide) (by rfl) (by decide) (by rfl) (by decide) (ldLoc (s := { s with heap := h2, toks := _ }) F2 rfl ⟨lo, _, rfl, hlo2, by rw [List.length_map]; omega, ?_, ?_⟩)))
    · intro C y t s₃ m₃ E' hy hns' hm hk
      refine wpAny_isTrue_Compare1 (wpAny_Name (wpAny_loadName_local (by rfl) (by rfl) hns' hm (wpAny_Name (wpAny_loadName_cell (by rfl) (by rfl) (by rfl) (c1 ▸ (X2.cell _ (L + 2) (by rfl)).keeps hk)
        (wpAny_notIn_of (k := y) (strKind_is prog w _ _) lo2 (hf2.at fun o e => hk _ o e).mapOf (wpAny_truthy_bool ⟨rfl, s₃.heap, _, rfl, fun _ _ e => e⟩))) (by decide))) (by decide))
    · intro lc h3 tk3 hlc0 hlc k3
      have F3 := F2.after k3
      have X3 := X2.keeps k3
      have hf3 : h3.DictOf (strKind prog w) fd kvs := hf2.at fun o e => k3 _ o e
      refine nilList (s := { s with heap := h3, toks := _ }) fun e4 h4 ee4 hl4 k4 => ?_
      refine eqNil (s := { s with heap := h4, toks := _ }) (hlc.at fun o e => k4 _ o e) hl4 (fun x hx => hnok x (List.mem_filter.mp hx).1) hu (wpAny_truthy_bool ?_)
      have hrd : decide (((depsOf D n).map nm).filter (fun x => !(valueAt kvs x).isSome) = []) = ready D f n := by
        have e1 : ∀ j ∈ depsOf D n, (valueAt kvs (nm j)).isSome = (fAt f j).isSome := fun j hj => by
          rcases hr.at (hdn j hj) hfk with ⟨q1, q2⟩ | ⟨x, t, q1, q2⟩ <;> rw [q1, q2] <;> rfl
        rw [ready, hfn]
        simp only [Option.isNone_none, Bool.true_and]
        rw [Bool.eq_iff_iff, decide_eq_true_iff, List.filter_eq_nil_iff, List.all_eq_true]
        constructor
        · intro q j hj
          have := q (nm j) (List.mem_map.mpr ⟨j, hj, rfl⟩)
          rw [e1 j hj] at this
          revert this; cases (fAt f j).isSome <;> simp
        · intro q x hx
          obtain ⟨j, hj, rfl⟩ := List.mem_map.mp hx
          rw [e1 j hj, q j hj]; simp
      rw [hrd]
      have k34 : ∀ b o, h2.get? b = some o → h4.get? b = some o := fun b o e => k4 b o (k3 b o e)
      cases hrdy : ready D f n with
      | false => exact wpAny_execs_nil (wpAny_execs_nil (no hrdy h4 _ k34))
      | true =>
        refine isTrue_and_nil ?_
        have F4 := F3.after k4
        have X4 := X3.keeps k4
        have hf4 : h4.DictOf (strKind prog w) fd kvs := hf3.at fun o e => k4 _ o e
        have kk4 : ∀ b o, b ≠ L → s.heap.get? b = some o → h4.get? b = some o := fun b o hb e => k34 b o (kk2 b o hb e)
        have hlo4 : LStr h4 lo ((depsOf D n).map nm) := hlo2.at fun o e => k34 _ o e
        have put : ∀ (h5 : Heap) (tk5 : Nat) (t5 : Tok), (∀ b o, h4.get? b = some o → h5.get? b = some o) → wpAny (model prog w) A (setItem (.ref fd) (.str (nm n) tn) (.int (dep1 D f n : Nat) t5)) (fun _ s' => ∃ h6 tk6 kvs', s' = { s with heap := h6, toks := tk6 } ∧ h6.DictOf (strKind prog w) fd kvs' ∧ FRel kvs' (turn1 D f n) ∧
            Heap.SameBut fd h5 h6) No { s with heap := h5, toks := tk5 } := fun h5 tk5 t5 k5 => by
          refine wpAny_setItem_pairs (s := { s with heap := h5, toks := _ }) (k := nm n) (strKind_is prog w _ _) (hf4.at fun o e => k5 _ o e) (fun h6 hd6 hs6 => ⟨h6, _, _, rfl, hd6, ?_, hs6⟩) (by rw [hr.length]; exact Nat.le_trans hfl (by decide))
          have hv : valueAt kvs (nm n) = none := by
            rcases hr.at hn hfk with ⟨_, q2⟩ | ⟨x, t, q1, _⟩
            · exact q2
            · rw [hfn] at q1; cases q1
          rw [stored_new hv, turn1, hrdy]
          exact hr.snoc
        refine wpAny_execs_cons (wpAny_Assign_Subscript (IfExp_ (wpAny_isTrue_Compare1 (ldLoc (s := { s with heap := h4, toks := _ }) F4 rfl (nilList (s := { s with heap := h4, toks := _ }) fun e5 h5 ee5 hl5 k5 =>
          neNil (s := { s with heap := h5, toks := _ }) (hlo4.at fun o e => k5 _ o e) hl5 hnok hu (wpAny_truthy_bool ?_))))))
        have done : ∀ (h5 h6 : Heap) (tk6 : Nat) (kvs' : List (Str × Value)), (∀ b o, h4.get? b = some o → h5.get? b = some o) → h6.DictOf (strKind prog w) fd kvs' → FRel kvs' (turn1 D f n) → Heap.SameBut fd h5 h6 →
            (fun (fl : Flow) s' => fl = .next ∧ ∃ h' tk m' kvs', s' = { s with heap := h', toks := tk } ∧ Fr h₀ L h' m' ∧ Cl L (cDeps L) h' cm ∧ (∀ x : Str, x ≠ "lot" → m' x = m x) ∧
            h'.DictOf (strKind prog w) fd kvs' ∧ FRel kvs' (turn1 D f n) ∧ (∀ b o, b ≠ L → b ≠ fd → s.heap.get? b = some o → h'.get? b = some o)) Flow.next { s with heap := h6, toks := tk6 } := by
          intro h5 h6 tk6 kvs' k5 hd6 hr6 hs6
          have F5 := F4.after k5
          obtain ⟨o5, ho5, hn5⟩ := dict_noCell (hf4.at fun o e => k5 _ o e)
          refine ⟨rfl, h6, tk6, _, kvs', rfl, ⟨F5.ns.sameBut hs6 (Ne.symm hfL), fun b o e => (hs6.2 b (by rintro rfl; rw [hf0] at e; cases e)).trans (F5.keep b o e), F5.above⟩,
            Cl.but (X4.keeps k5) (fun b o hb e => (hs6.2 b hb).trans e) ho5 hn5, fun x hx => if_neg hx, hd6, hr6, fun b o hb hb' e => (hs6.2 b hb').trans (k5 b o (kk4 b o hb e))⟩
        by_cases hnil : (depsOf D n) = []
        · have e1 : decide ((depsOf D n).map nm = []) = true := by simp [hnil]
          rw [e1]
          have hdep : dep1 D f n = 0 := by simp [dep1, hnil]
          rw [hdep] at put
          refine wpAny_Constant_int (ldC (s := { s with heap := h5, toks := _ }) (X4.keeps k5) (by rfl) c1 (ldLoc (s := { s with heap := h5, toks := _ }) (F4.after k5) m2 (wpAny_mono (put h5 _ _ k5) (fun _ s' hp => ?_) fun _ _ e => e)))
          obtain ⟨h6, tk6, kvs', rfl, a1, a2, a3⟩ := hp
          exact wpAny_execs_nil (wpAny_execs_nil (done h5 h6 tk6 kvs' k5 a1 a2 a3))
        · have e1 : decide ((depsOf D n).map nm = []) = false := by simp [hnil]
          rw [e1]
          have hdep : dep1 D f n = 1 + maxL ((depsOf D n).map fun j => (fAt f j).getD 0) := by simp [dep1, hnil]
          rw [hdep] at put
          have hall : ∀ j ∈ depsOf D n, (fAt f j).isSome = true := by
            have := hrdy; rw [ready, hfn] at this
            simpa using this
          refine wpAny_BinOp (wpAny_Constant_int (Call_ (nmB (s := { s with heap := h5, toks := _ }) (G.keeps (F4.after k5).keep) (fun _ _ k => ⟨k.max0, k.max1⟩) (PyProof.Rows.callWith_builtin1 (spliced_more
            (compL (fun _ => true) (fun v y => ∃ (x : Nat) (t' : Tok), y = .int (x : Int) t' ∧ ∀ j t, j ∈ depsOf D n → v = .str (nm j) t → (fAt f j).getD 0 = x) hh (by rfl) (by decide) (by rfl) (by decide) (by rfl)
              (ldLoc (s := { s with heap := h5, toks := _ }) (F4.after k5) rfl ?_)))))))
          obtain ⟨us, hus, hsa⟩ := hlo4
          refine ⟨lo, us, rfl, (hus.at fun o e => k5 _ o e).isList, ?_, ?_, ?_, ?_⟩
          · rw [strsAre_length hsa, List.length_map]; exact Nat.le_trans hdlen (by decide)
          · intro C v s₃ m₃ E' _ _ _ _
            exact wpAny_pure ⟨rfl, s₃.heap, s₃.toks, rfl, fun _ _ e => e⟩
          · intro C v s₃ m₃ E' hv _ hns' hm hk
            obtain ⟨y, t, rfl, hy⟩ := strsAre_mem hsa v hv
            obtain ⟨j, hj, rfl⟩ := List.mem_map.mp hy
            refine wpAny_Subscript_Name PySem.F.slot_dict_getitem.lookup (wpAny_Name (wpAny_loadName_cell (by rfl) (by rfl) (by rfl) (c1 ▸ ((X4.keeps k5).cell _ (L + 2) (by rfl)).keeps hk)
              (wpAny_Name (wpAny_loadName_local (by rfl) (by rfl) hns' hm ⟨((hf4.at fun o e => k5 _ o e).at fun o e => hk _ o e).typeIs, ?_⟩) (by decide))) (by decide))
            rcases hr.at (hdn j hj) hfk with ⟨q1, _⟩ | ⟨x, t2, q1, q2⟩
            · have := hall j hj; rw [q1] at this; cases this
            · exact wpAny_getItem_of (k := nm j) (strKind_is prog w _ _) ((hf4.at fun o e => k5 _ o e).at fun o e => hk _ o e).mapOf q2 ⟨⟨x, t2, rfl, fun j' t' hj' e => by injection e with e _; rw [← nm_inj (hdn j hj) (hdn j' hj') e, q1]; rfl⟩, s₃.heap, _, rfl, fun _ _ e => e⟩
          · intro lr h7 tk7 ys _ hlr hF k7
            have hna : NatsAre ys ((depsOf D n).map fun j => (fAt f j).getD 0) := by
              have e2 : us.filter (fun _ => true) = us := List.filter_eq_self.mpr fun _ _ => rfl
              rw [e2] at hF
              exact nats_paired (fun _ _ h => h) hsa (fun _ h => h) hF
            have k57 : ∀ b o, h4.get? b = some o → h7.get? b = some o := fun b o e => k7 b o (k5 b o e)
            refine spliced_none (max_nats (s := { s with heap := h7, toks := _ }) hh hlr.isList hna (by simpa using hnil) (fun t8 h8 tk8 k8 => ?_))
            have k58 : ∀ b o, h4.get? b = some o → h8.get? b = some o := fun b o e => k8 b o (k57 b o e)
            refine PyProof.Rows.add_int ?_
            have eint : ((1 : Int) + ((maxL ((depsOf D n).map fun j => (fAt f j).getD 0) : Nat) : Int)) = ((1 + maxL ((depsOf D n).map fun j => (fAt f j).getD 0) : Nat) : Int) := by omega
            rw [eint]
            refine ldC (s := { s with heap := h8, toks := _ }) (X4.keeps k58) (by rfl) c1 (ldLoc (s := { s with heap := h8, toks := _ }) (F4.after k58) m2 (wpAny_mono (put h8 _ _ k58) (fun _ s' hp => ?_) fun _ _ e => e))
            obtain ⟨h6, tk6, kvs', rfl, a1, a2, a3⟩ := hp
            exact wpAny_execs_nil (wpAny_execs_nil (done h8 h6 tk6 kvs' k58 a1 a2 a3))
end
end Mine
namespace Mine
open PySem PySem.W PyProof.Rows PySem.Calls

theorem nodup_len : ∀ {k : Nat} {l : List Nat}, l.Nodup → (∀ x ∈ l, x < k) → l.length ≤ k
  | 0, [], _, _ => Nat.le_refl _
  | 0, a :: _, _, hb => absurd (hb a (.head _)) (Nat.not_lt_zero _)
  | k + 1, l, hn, hb => by
    by_cases hk : k ∈ l
    · have h1 := List.length_erase_of_mem hk
      have h2 : (l.erase k).length ≤ k := nodup_len (hn.erase k) fun x hx => by
        have := (hn.mem_erase_iff).mp hx
        have := hb x this.2
        omega
      omega
    · have : l.length ≤ k := nodup_len hn fun x hx => by
        have h1 := hb x hx
        have : x ≠ k := fun e => hk (e ▸ hx)
        omega
      omega

/-- what is found: names, each once -/
def FOk (ns : List Nat) (f : List (Nat × Nat)) : Prop := (f.map (·.1)).Nodup ∧ ∀ p ∈ f, p.1 ∈ ns
theorem fAt_none {f : List (Nat × Nat)} {n : Nat} (h : fAt f n = none) : n ∉ f.map (·.1) := by
  intro hm
  obtain ⟨p, hp, e⟩ := List.mem_map.mp hm
  simp only [fAt, Option.map_eq_none_iff, List.find?_eq_none] at h
  exact h p hp (by simpa using e)
theorem FOk.turn {ns D f n} (h : FOk ns f) (hn : n ∈ ns) : FOk ns (turn1 D f n) := by
  unfold turn1
  cases hr : ready D f n with
  | false => exact h
  | true =>
    have hnone : fAt f n = none := by
      unfold ready at hr
      cases q : fAt f n with
      | none => rfl
      | some x => rw [q] at hr; simp at hr
    refine ⟨?_, fun p hp => ?_⟩
    · show ((f ++ [(n, dep1 D f n)]).map (·.1)).Nodup
      rw [List.map_append]
      exact List.nodup_append.mpr ⟨h.1, by simp, fun a ha b hb e => by simp at hb; subst hb; subst e; exact fAt_none hnone ha⟩
    · rcases List.mem_append.mp hp with q | q
      · exact h.2 p q
      · simp at q; subst q; exact hn
theorem FOk.fold {ns D} : ∀ {l : List Nat} {f : List (Nat × Nat)}, (∀ n ∈ l, n ∈ ns) → FOk ns f → FOk ns (l.foldl (turn1 D) f)
  | [], _, _, h => h
  | a :: r, _, hl, h => FOk.fold (l := r) (fun n hn => hl n (.tail _ hn)) (h.turn (hl a (.head _)))
def rounds (D : List (Nat × List Nat)) (ns : List Nat) : Nat → List (Nat × Nat)
  | 0 => []
  | k + 1 => ns.foldl (turn1 D) (rounds D ns k)
theorem FOk.rounds {ns D} : ∀ k, FOk ns (rounds D ns k)
  | 0 => ⟨List.nodup_nil, fun _ h => nomatch h⟩
  | k + 1 => FOk.fold (fun _ h => h) (FOk.rounds k)
theorem FOk.len {ns f} (h : FOk ns f) (hb : ∀ n ∈ ns, n < 7) : f.length ≤ 7 := by
  have := nodup_len h.1 fun x hx => by
    obtain ⟨p, hp, rfl⟩ := List.mem_map.mp hx
    exact hb _ (h.2 p hp)
  simpa using this

section
variable {prog : Program} {w : World} {A : Around} {E : Value → Shared → Prop} {s : Shared} {h₀ : Heap} {L : Addr} {m cm : Str → Option Value}

/-- a list object as the source of a loop -/
theorem iterList {l : Addr} {vs : List Value} {Q : Value → Shared → Prop} (hh : A.handled = none) (hl : s.heap.IsList l vs.toArray)
    (h : ∀ I h', I = s.heap.objs.size → (∀ b o, s.heap.get? b = some o → h'.get? b = some o) → l ≠ I →
      Walks prog w A I [I, l] [I] vs.length (fun i v => vs[i]? = some v) (fun i h => h.IsListIter I l i ∧ h.IsList l vs.toArray) → (h'.IsListIter I l 0 ∧ h'.IsList l vs.toArray) → (∀ b ∈ [I, l], b < h'.objs.size) → Q (.ref I) { s with heap := h' }) :
    wpAny (model prog w) A (pyIter (.ref l)) Q E s := by
  have hlt : l < s.heap.objs.size := by obtain ⟨_, e, _⟩ := hl; exact Heap.lt_size e
  refine wpAny_pyIter_list hl (h _ _ rfl (fun b o e => Heap.get?_push_of_some _ e) (Nat.ne_of_lt hlt) ?_ ⟨⟨_, Heap.get?_push_size _ rfl, rfl, rfl⟩, hl.push _⟩ (fun b hb => ?_))
  · have := Walks.list (prog := prog) (w := w) hh s.heap.objs.size l (Nat.ne_of_lt hlt) vs.toArray
    simpa using this
  · show b < (s.heap.push _).objs.size
    rw [Heap.size_push]
    rcases List.mem_cons.mp hb with rfl | hb
    · exact Nat.lt_succ_self _
    · rcases List.mem_cons.mp hb with rfl | hb
      · exact Nat.lt_succ_of_lt hlt
      · cases hb

theorem strsAre_at : ∀ {vs : List Value} {xs : List Str}, StrsAre vs xs → ∀ (i : Nat) (v : Value), vs[i]? = some v → ∃ (x : Str) (t : Tok), v = Value.str x t ∧ xs[i]? = some x
  | _, _, .nil, i, v, h => by simp at h
  | _, _, .cons x t h, 0, v, e => by simp at e; exact ⟨x, t, e.symm, rfl⟩
  | _, _, .cons _ _ h, i + 1, v, e => by simpa using strsAre_at h i v (by simpa using e)

theorem Cl.at' {cs : List (Str × Addr)} {h h' : Heap} {I : Addr} (X : Cl L cs h cm) {h₁ : Heap} {cm₁ : Str → Option Value} (X₁ : Cl L cs h₁ cm₁) (hI : h₁.objs.size ≤ I) (hk : ∀ b o, b ≠ L → b ∉ [I] → h.get? b = some o → h'.get? b = some o) : Cl L cs h' cm :=
  ⟨fun n c e => let ⟨o, ho, hd⟩ := X.cell n c e; ⟨o, hk c o (Nat.ne_of_gt (X.above n c (mem_of_lookup e))) (fun q => by
    obtain ⟨o1, ho1, _⟩ := X₁.cell n c e
    have := Heap.lt_size ho1
    rw [List.mem_singleton.mp q] at this
    exact Nat.not_lt.mpr hI this) ho, hd⟩, X.apart, X.above⟩

theorem depsOuter_for {d fd ln : Addr} {ns : List Nat} {D : List (Nat × List Nat)} {f : List (Nat × Nat)} {kvs : List (Str × Value)} (hh : A.handled = none) (hu : A.units + 64 < cLine) (G : Glo h₀)
    (F : Fr h₀ L s.heap m) (X : Cl L (cDeps L) s.heap cm) (m1 : m "leaning" = some (.ref d)) (c1 : cm "found" = some (.ref fd)) (c2 : cm "names" = some (.ref ln)) (hns : ∀ n ∈ ns, n < 7)
    (hln : LStr s.heap ln (ns.map nm)) (hlnL : ln ≠ L) (hlnf : ln ≠ fd) (hfL : fd ≠ L)
    (hD : Deep prog w [L, fd] s.heap d D) (hDk : ∀ p ∈ D, p.1 < 7) (hDj : ∀ p ∈ D, ∀ j ∈ p.2, j < 7) (hDl : ∀ p ∈ D, p.2.length ≤ 7) (lo1 : (d == sysModules) = false)
    (hf : s.heap.DictOf (strKind prog w) fd kvs) (hr : FRel kvs f) (hok : FOk ns f) (lo2 : (fd == sysModules) = false) (hf0 : h₀.get? fd = none) :
    wpAny (model prog w) A (exec (depsOuter.getD 0 (.Pass default)) (eDeps L)) (fun fl s' => fl = .next ∧ ∃ h' tk m' kvs', s' = { s with heap := h', toks := tk } ∧ Fr h₀ L h' m' ∧ Cl L (cDeps L) h' cm ∧ m' "leaning" = some (.ref d) ∧
      h'.DictOf (strKind prog w) fd kvs' ∧ FRel kvs' (ns.foldl (turn1 D) f) ∧ (∀ b o, b ≠ L → b ≠ fd → s.heap.get? b = some o → h'.get? b = some o)) No s := by
  obtain ⟨vs, hvs, hsa⟩ := id hln
  have hvl : vs.length = ns.length := by rw [strsAre_length hsa, List.length_map]
  refine forX (h₀ := h₀) (by rfl) (by rfl) (ldC X (by rfl) c2 (iterList hh hvs.isList (fun I h1 eI k1 hlI W st0 _ => ?_)))
  have hI : s.heap.objs.size ≤ I := Nat.le_of_eq eI.symm
  have hLI : L ≠ I := Nat.ne_of_lt (eI ▸ F.ns.lt)
  have hfI : fd ≠ I := Nat.ne_of_lt (eI ▸ dict_lt hf)
  refine ⟨I, _, _, _, _, _, m, (fun i m' h => m' "leaning" = some (.ref d) ∧ Cl L (cDeps L) h cm ∧ (∃ kvs', h.DictOf (strKind prog w) fd kvs' ∧ FRel kvs' ((ns.take i).foldl (turn1 D) f)) ∧
      (∀ b o, b ≠ L → b ≠ fd → s.heap.get? b = some o → h.get? b = some o)), rfl, W, ?_, ?_, ?_, st0, F.after k1, ?_, ?_, ?_⟩
  · intro hm
    rcases List.mem_cons.mp hm with q | q
    · exact hLI q
    · exact hlnL (List.mem_singleton.mp q).symm
  · intro b hb; rw [List.mem_singleton.mp hb]; exact get_none_of F.keep hI
  · rintro i m' h h' ⟨a1, a2, ⟨kvs', a3, a4⟩, a5⟩ hk
    refine ⟨a1, Cl.at' a2 X hI hk, ⟨kvs', a3.at fun o e => hk fd o hfL (fun q => hfI (List.mem_singleton.mp q)) e, a4⟩, fun b o q1 q2 e => hk b o q1 (fun q => ?_) (a5 b o q1 q2 e)⟩
    exact absurd (Heap.lt_size e) (Nat.not_lt.mpr (List.mem_singleton.mp q ▸ hI))
  · exact ⟨m1, X.keeps k1, ⟨kvs, hf.at fun o e => k1 _ o e, hr⟩, fun b o _ _ e => k1 b o e⟩
  · rintro i v m₁ h₁ tk₁ hi' hP ⟨a1, a2, ⟨kvs', a3, a4⟩, a5⟩ F₁ st₁
    obtain ⟨x, t, rfl, hx⟩ := strsAre_at hsa i v hP
    rw [List.getElem?_map, Option.map_eq_some_iff] at hx
    obtain ⟨n, hn, rfl⟩ := hx
    have hnn : n ∈ ns := List.mem_of_getElem? hn
    have hokI : FOk ns ((ns.take i).foldl (turn1 D) f) := FOk.fold (fun n hn => List.mem_of_mem_take hn) hok
    refine wpAny_mono (depsInner_turn (s := { s with heap := h₁, toks := tk₁ }) (n := n) (tn := t) hh hu G F₁ a2 a1 rfl c1 (hns n hnn) hfL ?_ hDk hDj hDl lo1 a3 a4 (fun p hp => hns _ (hokI.2 p hp)) (hokI.len hns) lo2 hf0) (fun fl s₂ hp => ?_) fun _ _ e => e
    · exact hD.frame fun b o hb e => a5 b o (fun q => hb (q ▸ .head _)) (fun q => hb (q ▸ .tail _ (.head _))) e
    · obtain ⟨rfl, h', tk', m', kv2, rfl, b1, b2, b3, b4, b5, b6⟩ := hp
      refine ⟨rfl, h', tk', m', rfl, b1, ⟨(b3 _ (by decide)).trans a1, b2, ⟨kv2, b4, ?_⟩, fun b o q1 q2 e => b6 b o q1 q2 (a5 b o q1 q2 e)⟩, ?_⟩
      · have e1 : ns.take (i + 1) = ns.take i ++ [n] := by rw [List.take_add_one, hn]; rfl
        rw [e1, List.foldl_append]; exact b5
      · exact W.frame _ _ _ st₁ fun b hb o e => b6 b o (fun q => by
          rcases List.mem_cons.mp hb with q' | q'
          · exact hLI (q.symm.trans q')
          · exact hlnL ((List.mem_singleton.mp q').symm.trans q)) (fun q => by
          rcases List.mem_cons.mp hb with q' | q'
          · exact hfI (q.symm.trans q')
          · exact hlnf ((List.mem_singleton.mp q').symm.trans q)) e
  · rintro h' tk m' F' ⟨a1, a2, ⟨kvs', a3, a4⟩, a5⟩
    rw [hvl, List.take_length] at a4
    exact ⟨rfl, h', tk, m', kvs', rfl, F', a2, a1, a3, a4, a5⟩
end
end Mine
namespace Mine
open PySem PySem.W PyProof.Rows PySem.Calls

section
variable {prog : Program} {w : World} {A : Around} {E : Value → Shared → Prop} {s : Shared} {h₀ : Heap} {L : Addr} {m cm : Str → Option Value}

theorem addLists {l b : Addr} {vs ws : List Value} {Q : Value → Shared → Prop} (hl : s.heap.IsList l vs.toArray) (hb : s.heap.IsList b ws.toArray)
    (h : ∀ D h', D = s.heap.objs.size → h'.PlainList D (vs ++ ws).toArray → (∀ b o, s.heap.get? b = some o → h'.get? b = some o) → Q (.ref D) { s with heap := h' }) (hsz : vs.length + ws.length ≤ sizeLine) :
    wpAny (model prog w) A (binaryOp .Add (.ref l) (.ref b)) Q E s := by
  obtain ⟨⟨cls, dd, data, sl⟩, ho, hc, n, hd⟩ := id hl
  obtain ⟨⟨cls2, dd2, data2, sl2⟩, ho2, hc2, n2, hd2⟩ := id hb
  simp only at hc hd hc2 hd2
  subst hc hd hc2 hd2
  have e : vs.toArray ++ ws.toArray = (vs ++ ws).toArray := by simp
  refine concat_meets ⟨_, ho, rfl⟩ ⟨_, ho2, rfl⟩ noFill_list_add seq_list_add PySem.F.slot_list_add PySem.F.entry_list_add (PySem.F.args_list_add_2 _ _) (list_addW l b vs.toArray ws.toArray n n2 dd dd2 sl sl2 (by simpa using hsz)) ⟨ho, ho2, ?_⟩
  rw [e]
  exact h _ _ rfl ⟨0, Heap.get?_push_size _ rfl⟩ fun b o e => Heap.get?_push_of_some _ e
theorem strsAre_append : ∀ {vs ws : List Value} {xs ys : List Str}, StrsAre vs xs → StrsAre ws ys → StrsAre (vs ++ ws) (xs ++ ys)
  | _, _, _, _, .nil, h => h
  | _, _, _, _, .cons a b r, h => .cons a b (strsAre_append r h)
theorem addStrs {l b : Addr} {xs ys : List Str} {Q : Value → Shared → Prop} (hl : LStr s.heap l xs) (hb : LStr s.heap b ys)
    (h : ∀ D h', D = s.heap.objs.size → LStr h' D (xs ++ ys) → (∀ b o, s.heap.get? b = some o → h'.get? b = some o) → Q (.ref D) { s with heap := h' }) (hsz : xs.length + ys.length ≤ 100) :
    wpAny (model prog w) A (binaryOp .Add (.ref l) (.ref b)) Q E s := by
  obtain ⟨vs, hvs, hsa⟩ := hl
  obtain ⟨ws, hws, hsb⟩ := hb
  exact addLists hvs.isList hws.isList (fun D h' e hp hk => h D h' e ⟨_, hp, strsAre_append hsa hsb⟩ hk) (by rw [strsAre_length hsa, strsAre_length hsb]; exact Nat.le_trans hsz (by decide))

theorem strKind_isStr {k : Str} {v : Value} (h : (strKind prog w).is k v = true) : ∃ t, v = .str k t := Value.isStrOf_shape h

theorem keys_strs {kvs : List (Str × Value)} : ∀ {acc : List Value} {i : Nat}, acc.length + i = kvs.length → (∀ j v, acc[j]? = some v → ∃ k x, kvs[j + i]? = some (k, x) ∧ (strKind prog w).is k v = true) → StrsAre acc ((kvs.map (·.1)).drop i)
  | [], i, hl, _ => by
    have : (kvs.map (·.1)).drop i = [] := List.drop_eq_nil_of_le (by simp at hl ⊢; omega)
    rw [this]; exact .nil
  | v :: r, i, hl, h => by
    obtain ⟨k, x, e, hk⟩ := h 0 v rfl
    rw [Nat.zero_add] at e
    obtain ⟨t, rfl⟩ := strKind_isStr hk
    have hi : i < (kvs.map (·.1)).length := by simp at hl ⊢; omega
    have e2 : (kvs.map (·.1)).drop i = k :: (kvs.map (·.1)).drop (i + 1) := by
      rw [List.drop_eq_getElem_cons hi]
      congr 1
      rw [List.getElem_map]
      have hi' : i < kvs.length := by simpa using hi
      rw [List.getElem?_eq_getElem hi'] at e
      simp only [Option.some.injEq] at e
      rw [e]
    rw [e2]
    exact .cons _ _ (keys_strs (i := i + 1) (by simp at hl ⊢; omega) fun j u hu => by
      have := h (j + 1) u (by simpa using hu)
      rw [Nat.add_right_comm, Nat.add_assoc] at this
      exact this)

/-- list(dict) -/
theorem listOfDict {d : Addr} {kvs : List (Str × Value)} {Q : Value → Shared → Prop} (hh : A.handled = none) (lo : (d == sysModules) = false) (hD : s.heap.DictOf (strKind prog w) d kvs) (hn : kvs.length ≤ 100)
    (h : ∀ B h' tk, B = s.heap.objs.size → LStr h' B (kvs.map (·.1)) → (∀ b o, s.heap.get? b = some o → h'.get? b = some o) → Q (.ref B) { s with heap := h', toks := tk }) :
    wpAny (model prog w) A (call (.type "list") [.ref d]) Q E s := by
  obtain ⟨ep, hat⟩ := hD.dictAt
  refine kdl_call (kdl_dict (ep := ep) lo) hh hat (Nat.le_trans hn (by decide)) fun h' tk acc' c' hk hB hacc => h _ h' tk rfl ⟨acc'.toList, ⟨c', by simpa using hB⟩, ?_⟩ hk
  have := keys_strs (prog := prog) (w := w) (kvs := kvs) (acc := acc'.toList) (i := 0) (by rw [Array.length_toList]; exact hacc.1) (fun j v e => hacc.2 j v (by simpa using e))
  simpa using this

theorem namesStep_ok {ns js : List Nat} (h1 : ns.Nodup) (h2 : ∀ n ∈ ns, n < 7) (h3 : js.Nodup) (h4 : ∀ n ∈ js, n < 7) : (namesStep ns js).Nodup ∧ ∀ n ∈ namesStep ns js, n < 7 := by
  constructor
  · refine List.nodup_append.mpr ⟨h1, h3.filter _, fun a ha b hb e => ?_⟩
    subst e
    have := (List.mem_filter.mp hb).2
    simp only [Bool.not_eq_true', List.contains_eq_mem, decide_eq_false_iff_not] at this
    exact this ha
  · intro n hn
    rcases List.mem_append.mp hn with q | q
    · exact h2 n q
    · exact h4 n (List.mem_filter.mp q).1
theorem namesFold_ok : ∀ {jss : List (List Nat)} {ns : List Nat}, ns.Nodup → (∀ n ∈ ns, n < 7) → (∀ js ∈ jss, js.Nodup ∧ ∀ n ∈ js, n < 7) → (jss.foldl namesStep ns).Nodup ∧ ∀ n ∈ jss.foldl namesStep ns, n < 7
  | [], _, h1, h2, _ => ⟨h1, h2⟩
  | js :: r, _, h1, h2, h3 => by
    have := namesStep_ok h1 h2 (h3 js (.head _)).1 (h3 js (.head _)).2
    exact namesFold_ok (jss := r) this.1 this.2 fun js' h => h3 js' (.tail _ h)

theorem Incr.nodup {js : List Nat} {i : Nat} (h : Incr js i) : js.Nodup := List.Pairwise.imp (fun hlt => Nat.ne_of_lt hlt) h.1

/-- one turn of the names loop -/
theorem namesTurn {d ln : Addr} {ns : List Nat} {n : Nat} {tn : Tok} {js : List Nat} {D : List (Nat × List Nat)} (hh : A.handled = none)
    (F : Fr h₀ L s.heap m) (X : Cl L (cDeps L) s.heap cm) (m1 : m "leaning" = some (.ref d)) (m2 : m "name" = some (.str (nm n) tn)) (c2 : cm "names" = some (.ref ln)) (hns : ∀ n ∈ ns, n < 7) (hnd : ns.Nodup) (hn : n < 7)
    (hln : LStr s.heap ln (ns.map nm)) (hD : Deep prog w [L] s.heap d D) (hDk : ∀ p ∈ D, p.1 < 7) (hj : depsAt D n = some js) (hjs : ∀ j ∈ js, j < 7) (hjl : js.length ≤ 7) :
    wpAny (model prog w) A (execs (forB ((fbody dDeps).getD 1 (.Pass default))) (eDeps L)) (fun fl s' => fl = .next ∧ ∃ h' tk cm' ln', s' = { s with heap := h', toks := tk } ∧ Fr h₀ L h' m ∧ Cl L (cDeps L) h' cm' ∧ cm' "names" = some (.ref ln') ∧ LStr h' ln' ((namesStep ns js).map nm) ∧
      (∀ b o, b ≠ L + 1 → s.heap.get? b = some o → h'.get? b = some o)) No s := by
  obtain ⟨kvD, dD, dr, _, _⟩ := id hD
  refine wpAny_execs_cons (wpAny_Assign_Name (wpAny_BinOp (ldC X (by rfl) c2 ?_)))
  refine compStr (fun x => !((ns.map nm).any (· == x))) hh (by rfl) (by decide) (by rfl) (by decide) (by rfl) (by decide) (wpAny_Subscript_Name PySem.F.slot_dict_getitem.lookup (ldLoc F m1 (ldLoc F m2 ⟨dD.typeIs, ?_⟩)))
  rcases dr.at hn hDk with ⟨q1, _⟩ | ⟨js', l, q1, q2, q3, _⟩
  · rw [hj] at q1; cases q1
  rw [hj] at q1; cases q1
  refine wpAny_getItem_of (k := nm n) (strKind_is prog w _ _) dD.mapOf q2 ⟨l, _, rfl, q3, by rw [List.length_map]; omega, ?_, ?_⟩
  · intro C y t s₃ m₃ E' hy hns' hm hk
    obtain ⟨vs, hvs, hsa⟩ := hln
    refine wpAny_isTrue_Compare1 (wpAny_Name (wpAny_loadName_local (by rfl) (by rfl) hns' hm (wpAny_Name (wpAny_loadName_cell (by rfl) (by rfl) (by rfl) (c2 ▸ (X.cell _ (L + 1) (by rfl)).keeps hk)
        (notin_list_strs (hvs.at fun o e => hk _ o e).isList hsa (wpAny_truthy_bool ⟨rfl, s₃.heap, _, rfl, fun _ _ e => e⟩))) (by decide))) (by decide))
  · intro lc h3 tk3 _ hlc k3
    have e1 : (js.map nm).filter (fun x => !((ns.map nm).any (· == x))) = (js.filter fun j => !ns.contains j).map nm := by
      rw [List.filter_map]
      congr 1
      refine List.filter_congr fun j hj' => ?_
      show (!((ns.map nm).any (· == nm j))) = !ns.contains j
      congr 1
      rw [Bool.eq_iff_iff, List.any_eq_true, List.contains_iff_mem]
      constructor
      · rintro ⟨x, hx, e⟩
        obtain ⟨i, hi, rfl⟩ := List.mem_map.mp hx
        exact nm_inj (hns i hi) (hjs j hj') (eq_of_beq e) ▸ hi
      · intro hi; exact ⟨nm j, List.mem_map.mpr ⟨j, hi, rfl⟩, beq_self_eq_true _⟩
    rw [e1] at hlc
    refine addStrs (s := { s with heap := h3, toks := _ }) (hln.at fun o e => k3 _ o e) hlc (fun D' h4 eD' hl4 k4 => ?_) ?_
    · have F4 := F.after (fun b o e => k4 b o (k3 b o e))
      have X4 := X.keeps (fun b o e => k4 b o (k3 b o e))
      have hLc : L < L + 1 := Nat.lt_succ_self L
      have hc4 : h4.IsCell (L + 1) (cm "names") := X4.cell _ (L + 1) (by rfl)
      refine wpAny_storeName_cell (s := { s with heap := h4, toks := _ }) (by rfl) (by rfl) (c := L + 1) (by rfl) hc4 fun h5 hv hs => wpAny_execs_nil ⟨rfl, h5, _, (fun y => if y = "names" then some (.ref D') else cm y), D', rfl, ?_, ?_, rfl, ?_, ?_⟩
      · exact ⟨F4.ns.sameBut hs (Nat.ne_of_lt hLc), fun b o e => (hs.2 b (Nat.ne_of_lt (Nat.lt_trans (Nat.lt_of_lt_of_le (Heap.lt_size e) F4.above) hLc))).trans (F4.keep b o e), F4.above⟩
      · refine ⟨fun x c' e => ?_, X4.apart, X4.above⟩
        by_cases hx : x = "names"
        · subst hx
          have : c' = L + 1 := by
            have e2 : (cDeps L).lookup (Str.ofString "names") = some (L + 1) := by rfl
            rw [e2] at e; cases e; rfl
          subst this; simpa using hv
        · have hcc : c' ≠ L + 1 := fun q => hx (name_of_addr X4.apart (mem_of_lookup e) (q ▸ mem_of_lookup (by rfl : (cDeps L).lookup (Str.ofString "names") = some (L + 1))))
          simpa [hx] using (X4.cell x c' e).sameBut hs hcc
      · rw [namesStep, List.map_append]
        exact hl4.at fun o e => (hs.2 D' (fun q => by
          obtain ⟨vs', ⟨n', hvs'⟩, _⟩ := hl4
          obtain ⟨oc, hoc, hdc⟩ := hc4
          rw [q, hoc] at hvs'; cases hvs'; cases hdc)).trans e
      · exact fun b o hb e => (hs.2 b hb).trans (k4 b o (k3 b o e))
    · have h1 := nodup_len hnd hns
      have h2 : ((js.filter fun j => !ns.contains j).map nm).length ≤ js.length := by rw [List.length_map]; exact List.length_filter_le _ _
      rw [List.length_map]
      omega
end
end Mine
namespace Mine
open PySem PySem.W PyProof.Rows PySem.Calls

def depthsOf (D : List (Nat × List Nat)) : List (Nat × Nat) := rounds D (namesOf D) (namesOf D).length

theorem depsAt_get : ∀ {D : List (Nat × List Nat)} {i n : Nat} {js : List Nat}, (D.map (·.1)).Nodup → D[i]? = some (n, js) → depsAt D n = some js
  | [], i, _, _, _, h => by simp at h
  | p :: r, 0, _, _, _, h => by simp at h; subst h; simp [depsAt]
  | p :: r, i + 1, n, js, hn, h => by
    have h' : r[i]? = some (n, js) := by simpa using h
    have hm : n ∈ r.map (·.1) := List.mem_map.mpr ⟨(n, js), List.mem_of_getElem? h', rfl⟩
    have hne : ¬ p.1 = n := fun e => (List.nodup_cons.mp hn).1 (by show p.1 ∈ _; rw [e]; exact hm)
    have := depsAt_get (List.nodup_cons.mp hn).2 h'
    simpa [depsAt, hne] using this

theorem DOk.lt7 {D M} (h : DOk D M M) (hM : M ≤ 7) : (∀ p ∈ D, p.1 < 7) ∧ (∀ p ∈ D, ∀ j ∈ p.2, j < 7) ∧ (∀ p ∈ D, p.2.length ≤ 7) :=
  ⟨fun p hp => Nat.lt_of_lt_of_le (h.1.2 _ (List.mem_map.mpr ⟨p, hp, rfl⟩)) hM, fun p hp j hj => Nat.lt_of_lt_of_le ((h.2 p hp).2 j hj) hM, fun p hp => Nat.le_trans (h.2 p hp).len hM⟩
theorem DOk.names {D M} (h : DOk D M M) (hM : M ≤ 7) : (namesOf D).Nodup ∧ ∀ n ∈ namesOf D, n < 7 := by
  refine namesFold_ok h.1.nodup (fun n hn => Nat.lt_of_lt_of_le (h.1.2 n hn) hM) fun js hj => ?_
  obtain ⟨p, hp, rfl⟩ := List.mem_map.mp hj
  exact ⟨(h.2 p hp).nodup, fun n hn => Nat.lt_of_lt_of_le ((h.2 p hp).2 n hn) hM⟩

section
variable {prog : Program} {w : World} {A : Around} {E : Value → Shared → Prop} {s : Shared} {h₀ : Heap} {L : Addr} {m cm : Str → Option Value}

theorem stCell {x : Str} {c : Addr} {v : Value} {Q : Unit → Shared → Prop} (F : Fr h₀ L s.heap m) (X : Cl L (cDeps L) s.heap cm) (hc : (cDeps L).lookup x = some c)
    (h : ∀ h', Fr h₀ L h' m → Cl L (cDeps L) h' (fun y => if y = x then some v else cm y) → (∀ b o, b ≠ c → s.heap.get? b = some o → h'.get? b = some o) → Q () { s with heap := h' })
    (hl : (eDeps L).kindOf x = some .cell := by rfl) : wpAny (model prog w) A (storeName (eDeps L) x v) Q E s := by
  have hLc : L < c := X.above x c (mem_of_lookup hc)
  refine wpAny_storeName_cell (by rfl) hl hc (X.cell x c hc) fun h5 hv hs => h h5 ?_ ?_ (fun b o hb e => (hs.2 b hb).trans e)
  · exact ⟨F.ns.sameBut hs (Nat.ne_of_lt hLc), fun b o e => (hs.2 b (Nat.ne_of_lt (Nat.lt_trans (Nat.lt_of_lt_of_le (Heap.lt_size e) F.above) hLc))).trans (F.keep b o e), F.above⟩
  · refine ⟨fun n c' e => ?_, X.apart, X.above⟩
    by_cases hx : n = x
    · subst hx; rw [hc] at e; cases e; simpa using hv
    · have hcc : c' ≠ c := fun q => hx (name_of_addr X.apart (mem_of_lookup e) (q ▸ mem_of_lookup hc))
      simpa [hx] using (X.cell n c' e).sameBut hs hcc

theorem cell_ne {c l : Addr} {v : Option Value} {h : Heap} {xs : List Str} (hc : h.IsCell c v) (hl : LStr h l xs) : l ≠ c := fun q => by
  obtain ⟨vs', ⟨n', hvs'⟩, _⟩ := hl
  obtain ⟨oc, hoc, hdc⟩ := hc
  rw [q, hoc] at hvs'; cases hvs'; cases hdc

/-- the names loop -/
theorem namesLoop {d ln : Addr} {D : List (Nat × List Nat)} {M : Nat} {Q : Flow → Shared → Prop} (hh : A.handled = none) (G : Glo h₀)
    (F : Fr h₀ L s.heap m) (X : Cl L (cDeps L) s.heap cm) (m1 : m "leaning" = some (.ref d)) (c2 : cm "names" = some (.ref ln))
    (hln : LStr s.heap ln ((D.map (·.1)).map nm)) (hD : Deep prog w [L, L + 1] s.heap d D) (hok : DOk D M M) (hM : M ≤ 7) (lo1 : (d == sysModules) = false)
    (hQ : ∀ h' tk m' cm' ln', Fr h₀ L h' m' → Cl L (cDeps L) h' cm' → m' "leaning" = some (.ref d) → cm' "names" = some (.ref ln') → LStr h' ln' ((namesOf D).map nm) →
      (∀ b o, b ≠ L → b ≠ L + 1 → s.heap.get? b = some o → h'.get? b = some o) → Q .next { s with heap := h', toks := tk }) :
    wpAny (model prog w) A (exec ((fbody dDeps).getD 1 (.Pass default)) (eDeps L)) Q No s := by
  obtain ⟨b1, b2, b3⟩ := hok.lt7 hM
  have hknd : (D.map (·.1)).Nodup := hok.1.nodup
  obtain ⟨kvD, dD, dr, _, _⟩ := id hD
  have hkl : kvD.length ≤ 100 := by rw [dr.length]; have := hok.1.len; rw [List.length_map] at this; omega
  refine forX (h₀ := h₀) (by rfl) (by rfl) (wpAny_Call_NameR (nmB (G.keeps F.keep) (fun _ _ k => ⟨k.list0, k.list1⟩) (PySem.callWith_type rfl (evalArgs_plain (spliced_cons (ldLoc F m1 (spliced_nil ?_)))))))
  refine listOfDict hh lo1 dD hkl fun B h1 tk1 eB hB k1 => ?_
  rw [dr.keys] at hB
  have hB' : LStr h1 B ((D.map (·.1)).map nm) := by rw [List.map_map]; exact hB
  obtain ⟨vs, hvs, hsa⟩ := id hB'
  have hvl : vs.length = D.length := by rw [strsAre_length hsa, List.length_map, List.length_map]
  refine iterList (s := { s with heap := h1, toks := tk1 }) hh hvs.isList (fun I h2 eI k2 hlI W st0 _ => ?_)
  have k12 : ∀ b o, s.heap.get? b = some o → h2.get? b = some o := fun b o e => k2 b o (k1 b o e)
  have F2 := F.after k12
  have X1 := X.keeps k1
  have X2 := X.keeps k12
  have hI : h1.objs.size ≤ I := Nat.le_of_eq eI.symm
  have hLI : L ≠ I := Nat.ne_of_lt (eI ▸ (F.after k1).ns.lt)
  have hcI : L + 1 ≠ I := Nat.ne_of_lt (eI ▸ (X1.cell _ (L + 1) (by rfl : (cDeps L).lookup (Str.ofString "names") = some (L + 1))).lt)
  have hBL : B ≠ L := ns_ne_list (F.after k1).ns hB'
  have hBc : B ≠ L + 1 := cell_ne (X1.cell _ (L + 1) (by rfl : (cDeps L).lookup (Str.ofString "names") = some (L + 1))) hB'
  have sI : ∀ b o, s.heap.get? b = some o → b ≠ I := fun b o e q => absurd (Heap.lt_size (k1 b o e)) (Nat.not_lt.mpr (q ▸ hI))
  refine ⟨I, _, _, _, _, _, m, (fun i m' h => m' "leaning" = some (.ref d) ∧ ∃ cm' ln', Cl L (cDeps L) h cm' ∧ cm' "names" = some (.ref ln') ∧ ln' ≠ L ∧ ln' ≠ I ∧
      LStr h ln' ((((D.map (·.2)).take i).foldl namesStep (D.map (·.1))).map nm) ∧ (∀ b o, b ≠ L → b ≠ L + 1 → s.heap.get? b = some o → h.get? b = some o)), rfl, W, ?_, ?_, ?_, st0, F2, ?_, ?_, ?_⟩
  · intro hm
    rcases List.mem_cons.mp hm with q | q
    · exact hLI q
    · exact hBL (List.mem_singleton.mp q).symm
  · intro b hb; rw [List.mem_singleton.mp hb]; exact get_none_of (F.after k1).keep hI
  · rintro i m' h h' ⟨a1, cm', ln', a2, a3, a4, a5, a6, a7⟩ hk
    refine ⟨a1, cm', ln', Cl.at' a2 X1 hI hk, a3, a4, a5, a6.at fun o e => hk _ o a4 (fun q => a5 (List.mem_singleton.mp q)) e, fun b o q1 q2 e => hk b o q1 (fun q => sI b o e (List.mem_singleton.mp q)) (a7 b o q1 q2 e)⟩
  · exact ⟨m1, cm, ln, X2, c2, ns_ne_list F.ns hln, fun q => by obtain ⟨_, ⟨_, ho⟩, _⟩ := hln; exact sI _ _ ho q, hln.at fun o e => k12 _ o e, fun b o _ _ e => k12 b o e⟩
  · rintro i v m₁ h₁ tk₁ hi' hP ⟨a1, cm', ln', a2, a3, a4, a5, a6, a7⟩ F₁ st₁
    obtain ⟨x, t, rfl, hx⟩ := strsAre_at hsa i v hP
    rw [List.map_map, List.getElem?_map, Option.map_eq_some_iff] at hx
    obtain ⟨⟨n, js⟩, hn, rfl⟩ := hx
    have hmem : (n, js) ∈ D := List.mem_of_getElem? hn
    have hfold := namesFold_ok (jss := (D.map (·.2)).take i) hknd (fun n hn => by
        obtain ⟨p, hp, rfl⟩ := List.mem_map.mp hn; exact b1 p hp) (fun js hj => by
        obtain ⟨p, hp, rfl⟩ := List.mem_map.mp (List.mem_of_mem_take hj)
        exact ⟨(hok.2 p hp).nodup, b2 p hp⟩)
    refine wpAny_mono (namesTurn (s := { s with heap := h₁, toks := tk₁ }) (n := n) (tn := t) (D := D) (js := js) hh F₁ a2 a1 rfl a3 hfold.2 hfold.1 (b1 _ hmem) a6 ?_ b1 (depsAt_get hknd hn) (b2 _ hmem) (b3 _ hmem)) (fun fl s₂ hp => ?_) fun _ _ e => e
    · exact (hD.frame fun b o hb e => a7 b o (fun q => hb (q ▸ .head _)) (fun q => hb (q ▸ .tail _ (.head _))) e).sub fun b hb => by rw [List.mem_singleton.mp hb]; exact .head _
    · obtain ⟨rfl, h', tk', cm2, ln2, rfl, e1, e2, e3, e4, e5⟩ := hp
      have st' := W.frame _ _ h' st₁ fun b hb o e => e5 b o (fun q => by
          rcases List.mem_cons.mp hb with q' | q'
          · exact hcI (q.symm.trans q')
          · exact hBc ((List.mem_singleton.mp q').symm.trans q)) e
      refine ⟨rfl, h', tk', _, rfl, e1, ⟨a1, cm2, ln2, e2, e3, ns_ne_list e1.ns e4, ?_, ?_, fun b o q1 q2 e => e5 b o q2 (a7 b o q1 q2 e)⟩, st'⟩
      · obtain ⟨vs', ⟨n', hvs'⟩, _⟩ := e4
        obtain ⟨⟨o, ho, hc, hdt⟩, _⟩ := st'
        exact ne_of_data hvs' ho (by rw [hdt]; exact fun q => nomatch q)
      · have e6 : (D.map (·.2)).take (i + 1) = (D.map (·.2)).take i ++ [js] := by rw [List.take_add_one, List.getElem?_map, hn]; rfl
        rw [e6, List.foldl_append]; exact e4
  · rintro h' tk m' F' ⟨a1, cm', ln', a2, a3, a4, a5, a6, a7⟩
    rw [List.take_of_length_le (by rw [List.length_map, hvl]; exact Nat.le_refl _)] at a6
    exact hQ h' tk m' cm' ln' F' a2 a1 a3 a6 a7
end
end Mine
namespace Mine
open PySem PySem.W PyProof.Rows PySem.Calls

section
variable {prog : Program} {w : World} {A : Around} {E : Value → Shared → Prop} {s : Shared}

theorem deps_spec {d : Addr} {D : List (Nat × List Nat)} {M : Nat} {Q : Value → Shared → Prop} (hh : A.handled = none) (G : Glo s.heap) (hroom : A.depth < recursionLimit) (hu : A.units + 67 < cLine)
    (hD : Deep prog w [] s.heap d D) (lo1 : (d == sysModules) = false) (hM : M ≤ 7) (hok : DOk D M M)
    (hQ : ∀ h' tk tp fd t kvs, (∀ b o, s.heap.get? b = some o → h'.get? b = some o) → h'.get? tp = some { cls := .type "tuple", data := .seq [Value.ref fd, Value.int ((namesOf D).length : Nat) t].toArray } →
      h'.DictOf (strKind prog w) fd kvs → FRel kvs (depthsOf D) → (fd == sysModules) = false → s.heap.get? fd = none → Q (.ref tp) { s with heap := h', toks := tk }) :
    wpAny (model prog w) A (call (.ref 38) [.ref d]) Q No s := by
  obtain ⟨o, pm, doc, ho, hd, hcd⟩ := G.fdeps
  obtain ⟨b1, b2, b3⟩ := hok.lt7 hM
  obtain ⟨hnd, hns⟩ := hok.names hM
  obtain ⟨kvD, dD, dr, _, _⟩ := id hD
  have hkl : kvD.length ≤ 100 := by rw [dr.length]; have := hok.1.len; rw [List.length_map] at this; omega
  have hdlt := dict_lt dD
  refine wpAny_call (codeAny_mono (call_cells_ret (binds := [(Str.ofString "leaning", Value.ref d)]) (R := fun r s' => ∃ v, r = .ok (.ret v) ∧ Q v s') hroom ho hd G.nolimit hcd (by rfl) (by
    intro x hx; simp only [List.mem_cons, List.not_mem_nil, or_false] at hx; subst hx; exact .inl (by rfl)) (fun h₁ tk F X => ?_)) (fun r s' hr => by obtain ⟨v, rfl, hq⟩ := hr; exact hq))
  generalize hL : s.heap.objs.size = L at F X hdlt ⊢
  have hu' : (A.deeper (eDeps L)).units + 64 < cLine := by rw [Around.deeper_units]; omega
  have hh' : (A.deeper (eDeps L)).handled = none := hh
  change wpAny (model prog w) (A.deeper (eDeps L)) _ _ _ _
  generalize hA' : A.deeper (eDeps L) = A' at hu' hh' ⊢
  have hd1 : Deep prog w [] h₁ d D := hD.frame fun b o _ e => F.keep b o e
  have hdL : d ≠ L := Nat.ne_of_lt hdlt
  -- names = list(leaning)
  refine wpAny_execs_cons (wpAny_Assign_Name (wpAny_Call_NameR (nmB (s := { s with heap := h₁, toks := tk }) (G.keeps F.keep) (fun _ _ k => ⟨k.list0, k.list1⟩) (PySem.callWith_type rfl (evalArgs_plain (spliced_cons (ldLoc (s := { s with heap := h₁, toks := tk }) F rfl (spliced_nil ?_))))))))
  refine listOfDict (s := { s with heap := h₁, toks := tk }) hh' lo1 (dD.at fun o e => F.keep _ o e) hkl fun B h2 tk2 eB hB k2 => ?_
  rw [dr.keys] at hB
  have hB' : LStr h2 B ((D.map (·.1)).map nm) := by rw [List.map_map]; exact hB
  have F2 := F.after k2
  have X2 := X.keeps k2
  have c1a : (cDeps L).lookup (Str.ofString "names") = some (L + 1) := by rfl
  have c2a : (cDeps L).lookup (Str.ofString "found") = some (L + 2) := by rfl
  refine stCell (s := { s with heap := h2, toks := _ }) F2 X2 c1a fun h3 F3 X3 k3 => ?_
  have hBc : B ≠ L + 1 := cell_ne (X2.cell _ _ c1a) hB'
  have olds : ∀ b o, s.heap.get? b = some o → b < L := fun b o e => hL ▸ Heap.lt_size e
  have W1 : Deep prog w [L, L + 1] h3 d D := by
    refine ⟨kvD, dD.at fun o e => F3.keep _ o e, dr.keep fun l _ o e => F3.keep _ o e, fun k l hm hq => ?_, fun hq => ?_⟩
    · obtain ⟨xs, us, ⟨n, y⟩, _⟩ := dr.lists k l hm
      have := olds _ _ y
      rcases List.mem_cons.mp hq with q | q
      · exact Nat.ne_of_lt this q
      · exact Nat.ne_of_lt (Nat.lt_succ_of_lt this) (List.mem_singleton.mp q)
    · rcases List.mem_cons.mp hq with q | q
      · exact hdL q
      · exact Nat.ne_of_lt (Nat.lt_succ_of_lt hdlt) (List.mem_singleton.mp q)
  refine wpAny_execs_cons (namesLoop (s := { s with heap := h3, toks := _ }) (ln := B) hh' G F3 X3 rfl rfl (hB'.at fun o e => k3 _ o hBc e) W1 hok hM lo1 fun h4 tk4 m4 cm4 ln F4 X4 m1 c1 hln k4 => ?_)
  -- found = {}
  refine wpAny_execs_cons (wpAny_Assign_Name (dict0_raw (prog := prog) (w := w) (s := { s with heap := h4, toks := _ }) fun fd h5 efd hfd k5 z5 => ?_))
  have F5 := F4.after k5
  have X5 := X4.keeps k5
  refine stCell (s := { s with heap := h5, toks := _ }) F5 X5 c2a fun h6 F6 X6 k6 => ?_
  have hfc : fd ≠ L + 2 := fun q => by have := (X4.cell _ _ c2a).lt; rw [← q, efd] at this; exact Nat.lt_irrefl _ this
  have hfL : fd ≠ L := fun q => by have := F4.ns.lt; rw [← q, efd] at this; exact Nat.lt_irrefl _ this
  have hlnc : ln ≠ L + 2 := cell_ne (X5.cell _ _ c2a) (hln.at fun o e => k5 _ o e)
  have hlnL : ln ≠ L := ns_ne_list F4.ns hln
  have hlnf : ln ≠ fd := fun q => by obtain ⟨_, ⟨_, y⟩, _⟩ := hln; have := Heap.lt_size y; rw [q, efd] at this; exact Nat.lt_irrefl _ this
  have hln6 : LStr h6 ln ((namesOf D).map nm) := hln.at fun o e => k6 _ o hlnc (k5 _ o e)
  have hfd6 : h6.DictOf (strKind prog w) fd [] := hfd.at fun o e => k6 _ o hfc e
  have hf0 : s.heap.get? fd = none := get_none_of F4.keep (Nat.le_of_eq efd.symm)
  have lo2 : (fd == sysModules) = false := (G.keeps F4.keep).notSys (Nat.le_of_eq efd.symm)
  have W6 : Deep prog w [L, fd] h6 d D := by
    refine ⟨kvD, dD.at fun o e => F6.keep _ o e, dr.keep fun l _ o e => F6.keep _ o e, fun k l hm hq => ?_, fun hq => ?_⟩
    · obtain ⟨xs, us, ⟨n, y⟩, _⟩ := dr.lists k l hm
      have := olds _ _ y
      rcases List.mem_cons.mp hq with q | q
      · exact Nat.ne_of_lt this q
      · rw [List.mem_singleton.mp q, hf0] at y; cases y
    · rcases List.mem_cons.mp hq with q | q
      · exact hdL q
      · obtain ⟨o, _, _, y, _⟩ := dD
        rw [List.mem_singleton.mp q, hf0] at y; cases y
  have cn6 : (fun y => if y = Str.ofString "found" then some (Value.ref fd) else cm4 y) (Str.ofString "names") = some (Value.ref ln) := c1
  have hlen : (namesOf D).length ≤ 7 := nodup_len hnd hns
  have lenNames : ∀ {E' : Value → Shared → Prop} {Q' : Value → Shared → Prop} {p1 p2 p3 : Pos} {s' : Shared} {m' : Str → Option Value} {cm' : Str → Option Value}, Fr s.heap L s'.heap m' → Cl L (cDeps L) s'.heap cm' → cm' (Str.ofString "names") = some (Value.ref ln) → LStr s'.heap ln ((namesOf D).map nm) →
      (∀ t tk, Q' (.int ((namesOf D).length : Nat) t) { s' with toks := tk }) → wpAny (model prog w) A' (eval (.Call (.Name "len" p1) [.Name "names" p2] [] p3) (eDeps L)) Q' E' s' := by
    intro E' Q' p1 p2 p3 s' m' cm' F' X' c' hl' hq'
    refine Call_ (nmB (G.keeps F'.keep) (fun _ _ k => ⟨k.len0, k.len1⟩) (PyProof.Rows.callWith_builtin1 (spliced_more (ldC X' (by rfl) c' (spliced_none ?_)))))
    obtain ⟨vs, hvs, hsa⟩ := hl'
    have e1 := strsAre_length hsa
    rw [List.length_map] at e1
    refine len_list hvs.isList (by rw [List.size_toArray, e1]; omega) ?_
    rw [List.size_toArray, e1]
    exact hq' _ _
  refine wpAny_execs_cons (forX (h₀ := s.heap) (by rfl) (by rfl) (rangeIter (s := { s with heap := h6, toks := _ }) (n := (namesOf D).length) hh' (G.keeps F6.keep) (by omega) (fun h => lenNames F6 X6 cn6 hln6 h) (by rfl) (fun I h7 tk7 hI k7 W st0 => ?_)))
  have hLI : L ≠ I := Nat.ne_of_lt (Nat.lt_of_lt_of_le F6.ns.lt hI)
  have hfI : fd ≠ I := Nat.ne_of_lt (Nat.lt_of_lt_of_le (dict_lt hfd6) hI)
  have hlnI : ln ≠ I := Nat.ne_of_lt (Nat.lt_of_lt_of_le hln6.lt hI)
  have sI : ∀ b o, h6.get? b = some o → b ≠ I := fun b o e q => absurd (Heap.lt_size e) (Nat.not_lt.mpr (q ▸ hI))
  refine ⟨I, _, _, _, _, _, m4, (fun i m' h => m' "leaning" = some (.ref d) ∧ Cl L (cDeps L) h (fun y => if y = Str.ofString "found" then some (Value.ref fd) else cm4 y) ∧ (∃ kvs, h.DictOf (strKind prog w) fd kvs ∧ FRel kvs (rounds D (namesOf D) i)) ∧
      (∀ b o, b ≠ L → b ≠ fd → h6.get? b = some o → h.get? b = some o)), rfl, W, ?_, ?_, ?_, st0, F6.after k7, ?_, ?_, ?_⟩
  · intro hm; exact hLI (List.mem_singleton.mp hm)
  · intro b hb; rw [List.mem_singleton.mp hb]; exact get_none_of F6.keep hI
  · rintro i m' h h' ⟨a1, a2, ⟨kvs, a3, a4⟩, a5⟩ hk
    refine ⟨a1, Cl.at' a2 X6 hI hk, ⟨kvs, a3.at fun o e => hk fd o hfL (fun q => hfI (List.mem_singleton.mp q)) e, a4⟩, fun b o q1 q2 e => hk b o q1 (fun q => sI b o e (List.mem_singleton.mp q)) (a5 b o q1 q2 e)⟩
  · exact ⟨m1, X6.keeps k7, ⟨[], hfd6.at fun o e => k7 _ o e, .nil⟩, fun b o _ _ e => k7 b o e⟩
  · rintro i v m₁ h₁' tk₁ hi' ⟨ti, rfl⟩ ⟨a1, a2, ⟨kvs, a3, a4⟩, a5⟩ F₁ st₁
    refine wpAny_execs_cons (wpAny_mono (depsOuter_for (s := { s with heap := h₁', toks := tk₁ }) (ns := namesOf D) (D := D) (ln := ln) hh' hu' G F₁ a2 a1 rfl cn6 hns (hln6.at fun o e => a5 _ o hlnL hlnf e) hlnL hlnf hfL
      (W6.frame fun b o hb e => a5 b o (fun q => hb (q ▸ .head _)) (fun q => hb (q ▸ .tail _ (.head _))) e) b1 b2 b3 lo1 a3 a4 (FOk.rounds i) lo2 hf0) (fun fl s₂ hp => ?_) fun _ _ e => e)
    obtain ⟨rfl, h', tk', m', kv2, rfl, e1, e2, e3, e4, e5, e6⟩ := hp
    refine wpAny_execs_nil ⟨rfl, h', tk', m', rfl, e1, ⟨e3, e2, ⟨kv2, e4, e5⟩, fun b o q1 q2 e => e6 b o q1 q2 (a5 b o q1 q2 e)⟩, ?_⟩
    exact W.frame _ _ _ st₁ fun b hb o e => e6 b o (fun q => hLI (q.symm.trans (List.mem_singleton.mp hb))) (fun q => hfI (q.symm.trans (List.mem_singleton.mp hb))) e
  · rintro h' tk' m' F' ⟨a1, a2, ⟨kvs, a3, a4⟩, a5⟩
    refine wpAny_execs_cons (wpAny_Return_some (Tuple_ (spliced_more (ldC (s := { s with heap := h', toks := tk' }) a2 (by rfl) rfl (spliced_more (lenNames F' a2 cn6 (hln6.at fun o e => a5 _ o hlnL hlnf e) (fun t tk2 => spliced_none (newTuple_raw (s := { s with heap := h', toks := tk2 }) (fun tp h8 e8 ht8 k8 z8 => ?_) (show 2 ≤ sizeLine by decide)))))))))
    exact ⟨_, rfl, hQ h8 tk2 tp fd t kvs (fun b o e => k8 b o (F'.keep b o e)) ht8 (a3.at fun o e => k8 _ o e) a4 lo2 hf0⟩
end
end Mine
namespace Mine
open PySem PySem.W PyProof.Rows PySem.Calls

def byText (w : World) : Bool := w.params.followText "set-order"
def keyOf (e : Int × Value) : Str := match e.2 with | .str x _ => x | _ => ""
def keysOf (l : List (Int × Value)) : List Str := l.map keyOf

structure SRaw (prog : Program) (w : World) (h : Heap) (a : Addr) (es : Array (Int × Value)) (ep : Nat) (t : SetTable) : Prop where
  obj : ∃ o, h.get? a = some o ∧ o.ExactSet ∧ o.data = .set es ep t
  el : ElemsOf (strKind prog w) es.toList
  few : es.size ≤ 1000
  fits : t.fits es.size = true
  led : t.led = !byText w
  plain : es.size ≠ 0 → t.plain = false

def SSet (prog : Program) (w : World) (h : Heap) (a : Addr) (xs : List Str) : Prop :=
  ∃ es ep t, SRaw prog w h a es ep t ∧ (keysOf es.toList).Perm xs ∧ xs.Nodup

section
variable {prog : Program} {w : World} {A : Around} {E : Value → Shared → Prop} {s : Shared} {h h' : Heap} {a : Addr} {es : Array (Int × Value)} {ep : Nat} {t : SetTable} {xs : List Str}

theorem SRaw.at (x : SRaw prog w h a es ep t) (hk : ∀ o, h.get? a = some o → h'.get? a = some o) : SRaw prog w h' a es ep t :=
  ⟨let ⟨o, b, c⟩ := x.obj; ⟨o, hk o b, c⟩, x.el, x.few, x.fits, x.led, x.plain⟩
theorem SSet.at (x : SSet prog w h a xs) (hk : ∀ o, h.get? a = some o → h'.get? a = some o) : SSet prog w h' a xs :=
  let ⟨es, ep, t, b, c, d⟩ := x; ⟨es, ep, t, b.at hk, c, d⟩
theorem SSet.lt (x : SSet prog w h a xs) : a < h.objs.size := let ⟨_, _, _, b, _⟩ := x; let ⟨_, ho, _⟩ := b.obj; Heap.lt_size ho
theorem SSet.typeIs (x : SSet prog w s.heap a xs) : s.TypeIs (.ref a) "set" := let ⟨_, _, _, b, _⟩ := x; let ⟨o, ho, hc, _⟩ := b.obj; ⟨o, ho, hc.1⟩
theorem SSet.noDict (x : SSet prog w s.heap a xs) : ∀ b, Value.ref a = .ref b → ∃ ob, s.heap.get? b = some ob ∧ ob.dict = none :=
  fun b e => by injection e with e; subst e; exact let ⟨_, _, _, b, _⟩ := x; let ⟨o, ho, hc, _⟩ := b.obj; ⟨o, ho, hc.2.1⟩
theorem SSet.perm {ys : List Str} (x : SSet prog w h a xs) (p : xs.Perm ys) : SSet prog w h a ys := let ⟨es, ep, t, b, c, d⟩ := x; ⟨es, ep, t, b, c.trans p, p.nodup_iff.mp d⟩
theorem SRaw.size (x : (keysOf es.toList).Perm xs) : es.size = xs.length := by
  have := x.length_eq
  simpa [keysOf] using this
theorem SRaw.state {Q : (Array (Int × Value) × Nat × SetTable) → Shared → Prop} (x : SRaw prog w s.heap a es ep t) (h : Q (es, ep, t) s) : wpAny (model prog w) A (setState a) Q E s :=
  let ⟨_, ho, _, hd⟩ := x.obj; wpAny_setState_of ho hd x.fits h
theorem SRaw.entries {Q : Array (Int × Value) → Shared → Prop} (x : SRaw prog w s.heap a es ep t) (h : Q es s) : wpAny (model prog w) A (setEntries a) Q E s := by
  unfold setEntries; exact wpAny_bind (x.state (wpAny_pure h))
theorem SRaw.epoch {Q : Nat → Shared → Prop} (x : SRaw prog w s.heap a es ep t) (h : Q ep s) : wpAny (model prog w) A (setEpoch a) Q E s := by
  unfold setEpoch; exact wpAny_bind (x.state (wpAny_pure h))
theorem asksText {Q : Bool → Shared → Prop} (h : Q (byText w) s) : wpAny (model prog w) A setsByText Q E s := by
  unfold setsByText; exact wpAny_bind (wpAny_askSetting (wpAny_pure h))

theorem elem_str {e : Int × Value} (h : ∃ k, (strKind prog w).is k e.2 = true ∧ e.1 = (strKind prog w).hash k) : ∃ k tk, e = ((strKind prog w).hash k, .str k tk) ∧ keyOf e = k := by
  obtain ⟨k, hk, hh⟩ := h
  obtain ⟨tk, e2⟩ := strKind_isStr hk
  obtain ⟨e1, v⟩ := e
  simp only at hh e2
  subst hh e2
  exact ⟨k, tk, rfl, rfl⟩
theorem is_key {e : Int × Value} {k : Str} (h : ∃ k, (strKind prog w).is k e.2 = true ∧ e.1 = (strKind prog w).hash k) : (strKind prog w).is k e.2 = (keyOf e == k) := by
  obtain ⟨k', tk, rfl, e⟩ := elem_str h
  rw [e]; rfl
theorem findKey {k : Str} : ∀ {l : List (Int × Value)}, ElemsOf (strKind prog w) l → l.findIdx? (fun e => (strKind prog w).is k e.2) = (keysOf l).findIdx? (· == k)
  | [], _ => rfl
  | e :: r, he => by
    rw [List.findIdx?_cons, keysOf, List.map_cons, List.findIdx?_cons, is_key he.head.1, findKey he.tail]; rfl

/-- storing a new content -/
theorem SRaw.store {es' : Array (Int × Value)} {t' : SetTable} {Q : Unit → Shared → Prop} (x : SRaw prog w s.heap a es ep t) (hel : ElemsOf (strKind prog w) es'.toList) (hb : es'.size ≤ 1000) (hf : t'.fits es'.size = true) (hl : t'.led = t.led) (hp : es'.size ≠ 0 → t'.plain = false)
    (h : ∀ h', Heap.SameBut a s.heap h' → SRaw prog w h' a es' (ep + 1) t' → Q () { s with heap := h' }) : wpAny (model prog w) A (storeSet a es' t') Q E s := by
  obtain ⟨o, ho, hex, hd⟩ := x.obj
  have hlt : es'.size < scanBound := Nat.lt_of_le_of_lt hb (by decide)
  refine wpAny_storeSet_of ho hd (h _ (Heap.SameBut.update s.heap a _) ⟨⟨{ o with data := .set es' (ep + 1) t' }, ?_, hex, rfl⟩, hel, hb, hf, hl.trans x.led, hp⟩) (fits_of_scanBound hlt)
  have := Heap.get?_update_self (Obj.putSet es' t') ho (by rw [putSet_of es' t' hd]; rfl)
  rw [putSet_of es' t' hd] at this; exact this

theorem layNew_led (t : SetTable) (es : Array (Int × Value)) (h : Int) (x : Value) : (layNew t es h x).2.1.led = t.led := by
  unfold layNew
  split
  · show (SetTable.orStandIn _ _).led = _
    unfold SetTable.orStandIn
    split <;> rfl
  · rfl
theorem layNew_plain (t : SetTable) (es : Array (Int × Value)) (h : Int) (x : Value) (hp : t.plain = false) : (layNew t es h x).2.1.plain = false := by
  unfold layNew
  split
  · show (SetTable.orStandIn _ _).plain = _
    unfold SetTable.orStandIn
    split
    · exact hp
    · rfl
  · rfl
theorem laid_led {m f v : Nat} {l p : Bool} {hs : Array Int} {t : SetTable} {o : Array Nat} (h : SetTable.laid m f v l p hs = some (t, o)) : t.led = l ∧ t.plain = p := by
  unfold SetTable.laid at h
  cases hq : SetTable.layClean m hs with
  | none => rw [hq] at h; cases h
  | some ow => rw [hq] at h; cases h; exact ⟨rfl, rfl⟩
theorem relayAll_led (t : SetTable) (es : Array (Int × Value)) (n : Nat) : (relayAll t es n).2.1.led = t.led := by
  unfold relayAll
  split
  · rename_i t' order hq
    dsimp only
    split
    · exact (laid_led hq).1
    · rfl
  · rfl
theorem relayAll_plain (t : SetTable) (es : Array (Int × Value)) (n : Nat) (hp : t.plain = false) : (relayAll t es n).2.1.plain = false := by
  unfold relayAll
  split
  · rename_i t' order hq
    dsimp only
    split
    · exact (laid_led hq).2.trans hp
    · rfl
  · rfl

theorem keysOf_perm {l l' : List (Int × Value)} (p : l.Perm l') : (keysOf l).Perm (keysOf l') := p.map _

theorem rawAddTail {g : Bool → Sem Unit} (hg : ∀ (b : Bool) (s₁ : Shared) (Q' : Unit → Shared → Prop), Q' () s₁ → wpAny (model prog w) A (g b) Q' E s₁)
    (x : SRaw prog w s.heap a es ep t) {es1 : Array (Int × Value)} {t2 : SetTable} (hel : ElemsOf (strKind prog w) es1.toList) (hb : es1.size ≤ 1000) (hf : t2.fits es1.size = true) (hl : t2.led = t.led) (hp : t2.plain = false) {wasDummy : Bool} {R : Option Bool → Shared → Prop}
    (h : ∀ h' es2 t3 ep', Heap.SameBut a s.heap h' → SRaw prog w h' a es2 ep' t3 → es2.toList.Perm es1.toList → R (some true) { s with heap := h' }) :
    wpAny (model prog w) A (do
        storeSet a es1 t2
        if (!wasDummy && t2.tooFull) = true then do
            g (relayAll t2 es1 (SetTable.grown es1.size)).2.2
            storeSet a (relayAll t2 es1 (SetTable.grown es1.size)).1 (relayAll t2 es1 (SetTable.grown es1.size)).2.1
            pure (some true)
          else pure (some true)) R E s := by
  refine wpAny_bind (x.store hel hb hf hl (fun _ => hp) fun h1 hs1 x1 => ?_)
  split
  · have hpm := relayAll_perm t2 es1 (SetTable.grown es1.size)
    have hfr := relayAll_fits t2 es1 (SetTable.grown es1.size)
    have hld := relayAll_led t2 es1 (SetTable.grown es1.size)
    have hpl := relayAll_plain t2 es1 (SetTable.grown es1.size) hp
    generalize hRl : relayAll t2 es1 (SetTable.grown es1.size) = Rl at hpm hfr hld hpl ⊢
    obtain ⟨es2, t3, gave2⟩ := Rl
    dsimp only at hpm hfr hld hpl ⊢
    have hsz : es2.size = es1.size := by rw [← Array.length_toList, hpm.length_eq, Array.length_toList]
    refine wpAny_bind (hg _ _ _ ?_)
    refine wpAny_bind (SRaw.store (s := { s with heap := h1 }) x1 (hel.perm hpm) (by rw [hsz]; exact hb) hfr hld (fun _ => hpl) fun h2 hs2 x2 => wpAny_pure (h h2 es2 t3 _ (hs1.trans hs2) x2 hpm))
  · exact wpAny_pure (h h1 es1 t2 _ hs1 x1 .rfl)

theorem rawAdd {k : Str} {tk : Tok} {R : Bool → Shared → Prop} (x : SRaw prog w s.heap a es ep t) (hb : es.size + 1 ≤ 1000)
    (h1 : k ∈ keysOf es.toList → R false s)
    (h2 : k ∉ keysOf es.toList → ∀ h' es2 t3 ep', Heap.SameBut a s.heap h' → SRaw prog w h' a es2 ep' t3 → (keysOf es2.toList).Perm (keysOf es.toList ++ [k]) → R true { s with heap := h' }) :
    wpAny (model prog w) A (setAddHashed a (.str k tk) ((strKind prog w).hash k)) R E s := by
  obtain ⟨o, ho, hex, hd⟩ := x.obj
  have hkey : (strKind prog w).is k (.str k tk) = true := strKind_is prog w k tk
  have hsc : (Value.str k tk).scannable = true := rfl
  unfold setAddHashed setAddHashedIn
  refine wpAny_holding (wpAny_bind (x.state ?_))
  dsimp only
  rw [byScan_of hsc (Nat.lt_of_le_of_lt x.few (by decide)) x.el]
  simp only [↓reduceIte]
  unfold setAddByScan
  refine wpAny_bind ?_
  refine wpAny_bind (wpAny_rule ?_)
  refine wpAny_bind (wpAny_setScan_of hkey ho hd x.fits x.el ?_)
  rw [findKey x.el]
  cases hr : List.findIdx? (· == k) (keysOf es.toList) with
  | some j =>
    dsimp only
    obtain ⟨hj, hpj, _⟩ := List.findIdx?_eq_some_iff_getElem.mp hr
    exact wpAny_pure (wpAny_pure (h1 (eq_of_beq hpj ▸ List.getElem_mem hj)))
  | none =>
    dsimp only
    have hno : k ∉ keysOf es.toList := fun hm => by
      have := List.findIdx?_eq_none_iff.mp hr k hm
      simp at this
    have hgw : ∀ (b : Bool) {s₁ : Shared} {Q' : Unit → Shared → Prop}, Q' () s₁ → wpAny (model prog w) A (match b with | true => rule "set.scan.the-table-gave-way" | false => pure ()) Q' E s₁ :=
      fun b s₁ Q' hq => by cases b <;> first | exact wpAny_pure hq | exact wpAny_rule hq
    have hperm := layNew_perm t es ((strKind prog w).hash k) (.str k tk)
    have hfits := layNew_fits t es ((strKind prog w).hash k) (.str k tk)
    have hled := layNew_led t es ((strKind prog w).hash k) (.str k tk)
    generalize hL : layNew t es ((strKind prog w).hash k) (.str k tk) = L at hperm hfits hled ⊢
    obtain ⟨es1, t1, wasDummy, gave⟩ := L
    dsimp only at hperm hfits hled ⊢
    rw [Array.toList_push] at hperm
    have hel1 : ElemsOf (strKind prog w) es1.toList := (x.el.push hkey hsc).perm hperm
    have hsz1 : es1.size = es.size + 1 := by rw [← Array.length_toList, hperm.length_eq, List.length_append, Array.length_toList]; rfl
    have hkp : (keysOf es1.toList).Perm (keysOf es.toList ++ [k]) := by
      have := keysOf_perm hperm
      rw [keysOf, keysOf, List.map_append] at this
      exact this
    refine wpAny_bind (hgw _ ?_)
    split
    · refine wpAny_bind ?_
      rw [hashByValue_scannable 8 hsc]
      refine wpAny_pure ?_
      refine rawAddTail ?_ x (t2 := if plainKind (.str k tk) = true then t1 else { t1 with plain := false }) hel1 (by rw [hsz1]; exact hb) (SetTable.fits_plain_off hfits) hled rfl ?_
      · intro b s₁ Q' hq; cases b <;> first | exact wpAny_pure hq | exact wpAny_rule hq
      · intro h' es2 t3 ep' hs hx hp; exact wpAny_pure (h2 hno h' es2 t3 ep' hs hx ((keysOf_perm hp).trans hkp))
    · rename_i hpl
      refine wpAny_bind (wpAny_pure ?_)
      simp only [↓reduceIte]
      refine rawAddTail ?_ x hel1 (by rw [hsz1]; exact hb) hfits hled (by simpa using hpl) ?_
      · intro b s₁ Q' hq; cases b <;> first | exact wpAny_pure hq | exact wpAny_rule hq
      · intro h' es2 t3 ep' hs hx hp; exact wpAny_pure (h2 hno h' es2 t3 ep' hs hx ((keysOf_perm hp).trans hkp))

def addTo (xs : List Str) (k : Str) : List Str := if k ∈ xs then xs else xs ++ [k]
theorem addTo_nodup {k : Str} (h : xs.Nodup) : (addTo xs k).Nodup := by
  unfold addTo; split
  · exact h
  · rename_i hn; exact List.nodup_append.mpr ⟨h, by simp, fun a ha b hb e => by simp at hb; subst hb; subst e; exact hn ha⟩
theorem addTo_perm {ys : List Str} {k : Str} (h : xs.Perm ys) : (addTo xs k).Perm (addTo ys k) := by
  unfold addTo
  by_cases hk : k ∈ xs
  · rw [if_pos hk, if_pos (h.mem_iff.mp hk)]; exact h
  · rw [if_neg hk, if_neg fun q => hk (h.mem_iff.mpr q)]; exact h.append_right _

theorem ssetAddHashed {k : Str} {tk : Tok} {R : Bool → Shared → Prop} (x : SSet prog w s.heap a xs) (hb : xs.length + 1 ≤ 1000)
    (h : ∀ b h', Heap.SameBut a s.heap h' → SSet prog w h' a (addTo xs k) → R b { s with heap := h' }) :
    wpAny (model prog w) A (setAddHashed a (.str k tk) ((strKind prog w).hash k)) R E s := by
  obtain ⟨es, ep, t, x, hp, hn⟩ := x
  refine rawAdd x (by rw [SRaw.size hp]; exact hb) (fun hm => ?_) (fun hm h' es2 t3 ep' hs x2 hp2 => ?_)
  · have := h false s.heap (Heap.SameBut.refl a s.heap) ⟨es, ep, t, x, by rw [addTo, if_pos (hp.mem_iff.mp hm)]; exact hp, addTo_nodup hn⟩
    exact this
  · exact h true h' hs ⟨es2, ep', t3, x2, by rw [addTo, if_neg fun q => hm (hp.mem_iff.mpr q)]; exact hp2.trans (hp.append_right _), addTo_nodup hn⟩
theorem ssetAdd {k : Str} {tk : Tok} {R : Bool → Shared → Prop} (x : SSet prog w s.heap a xs) (hb : xs.length + 1 ≤ 1000)
    (h : ∀ b h' tok, Heap.SameBut a s.heap h' → SSet prog w h' a (addTo xs k) → R b { s with heap := h', toks := tok }) :
    wpAny (model prog w) A (setAdd a (.str k tk)) R E s := by
  unfold setAdd
  refine wpAny_holding (wpAny_bind ((strKind prog w).pyHash (strKind_is prog w k tk) ?_))
  exact ssetAddHashed (s := { s with toks := s.toks + 1 }) x hb fun b h' hs hx => h b h' _ hs hx
theorem ssetNew {Q : Value → Shared → Prop} (h : ∀ a h', a = s.heap.objs.size → (∀ b o, s.heap.get? b = some o → h'.get? b = some o) → h'.objs.size = a + 1 → SRaw prog w h' a #[] 0 (.fresh 0 0 (!byText w)) → Q (.ref a) { s with heap := h' }) :
    wpAny (model prog w) A (newSet (.type "set")) Q E s := by
  unfold newSet
  refine wpAny_bind (asksText ?_)
  dsimp only
  simp only [newObj]
  exact wpAny_bind (wpAny_alloc (wpAny_pure (h _ _ rfl (fun b o e => Heap.get?_push_of_some _ e) (Heap.size_push _ _) ⟨⟨_, Heap.get?_push_size _ rfl, ⟨rfl, rfl, rfl⟩, rfl⟩, (fun e he => by simp at he), by decide, by rfl, rfl, fun q => absurd rfl q⟩)))
theorem SRaw.empty (x : SRaw prog w h a #[] ep t) : SSet prog w h a [] := ⟨#[], ep, t, x, .rfl, .nil⟩

theorem ssetFind {k : Str} {tk : Tok} {Q : Option Nat → Shared → Prop} (x : SRaw prog w s.heap a es ep t) (h : Q ((keysOf es.toList).findIdx? (· == k)) s) :
    wpAny (model prog w) A (setFind a (.str k tk) ((strKind prog w).hash k)) Q E s := by
  obtain ⟨o, ho, hex, hd⟩ := x.obj
  unfold setFind setFindIn
  refine wpAny_bind (x.state ?_)
  dsimp only
  rw [byScan_of rfl (Nat.lt_of_le_of_lt x.few (by decide)) x.el]
  simp only [↓reduceIte]
  refine wpAny_bind (wpAny_rule ?_)
  refine wpAny_bind (wpAny_setScan_of (strKind_is prog w k tk) ho hd x.fits x.el ?_)
  rw [findKey x.el]
  cases hr : List.findIdx? (· == k) (keysOf es.toList) with
  | none => rw [hr] at h; exact wpAny_pure h
  | some j => rw [hr] at h; dsimp only; rw [Nat.zero_add]; exact wpAny_pure h
end
end Mine
namespace Mine
open PySem PySem.W PyProof.Rows PySem.Calls

/-- the walk over a table, slot after slot -/
def orbit (mask : Nat) : Nat → Nat × Nat → Nat × Nat
  | 0, p => p
  | k + 1, p => orbit mask k (SetTable.leap mask p.1 p.2)

def lcg (m1 : Nat) : Nat → Nat → Nat
  | 0, i => i
  | k + 1, i => lcg m1 k ((i * 5 + 1) % m1)

theorem orbit_zero (mask : Nat) : ∀ k i, (orbit mask k (i, 0)).1 = lcg (mask + 1) k i
  | 0, _ => rfl
  | k + 1, i => by
    show (orbit mask k ((i * 5 + 1 + 0 / 32) % (mask + 1), 0 / 32)).1 = _
    rw [Nat.zero_div, Nat.add_zero, orbit_zero mask k]; rfl
theorem orbit_add (mask : Nat) : ∀ a b p, orbit mask (a + b) p = orbit mask b (orbit mask a p)
  | 0, b, p => by rw [Nat.zero_add]; rfl
  | a + 1, b, p => by rw [Nat.add_right_comm]; exact orbit_add mask a b _
theorem orbit_snd (mask : Nat) : ∀ k p, (orbit mask k p).2 = p.2 / 32 ^ k
  | 0, p => by simp [orbit]
  | k + 1, p => by
    show (orbit mask k (SetTable.leap mask p.1 p.2)).2 = _
    rw [orbit_snd mask k, Nat.pow_succ, Nat.mul_comm, ← Nat.div_div_eq_div_mul]; rfl
theorem orbit_le (mask : Nat) : ∀ k p, p.1 ≤ mask → (orbit mask k p).1 ≤ mask
  | 0, _, h => h
  | k + 1, p, _ => orbit_le mask k _ (Nat.lt_succ_iff.mp (Nat.mod_lt _ (Nat.succ_pos _)))

theorem lcg_hits : ∀ mask, mask = 7 ∨ mask = 15 ∨ mask = 31 → ∀ i ≤ mask, ∀ j ≤ mask, ∃ k ≤ mask, lcg (mask + 1) k i = j := by
  have h7 : ∀ i < 8, ∀ j < 8, ∃ k, k < 8 ∧ lcg 8 k i = j := by decide +kernel
  have h15 : ∀ i < 16, ∀ j < 16, ∃ k, k < 16 ∧ lcg 16 k i = j := by decide +kernel
  have h31 : ∀ i < 32, ∀ j < 32, ∃ k, k < 32 ∧ lcg 32 k i = j := by decide +kernel
  rintro mask (rfl | rfl | rfl) i hi j hj
  · obtain ⟨k, hk, e⟩ := h7 i (by omega) j (by omega); exact ⟨k, by omega, e⟩
  · obtain ⟨k, hk, e⟩ := h15 i (by omega) j (by omega); exact ⟨k, by omega, e⟩
  · obtain ⟨k, hk, e⟩ := h31 i (by omega) j (by omega); exact ⟨k, by omega, e⟩

theorem orbit_hits {mask : Nat} (hm : mask = 7 ∨ mask = 15 ∨ mask = 31) {i p : Nat} (hi : i ≤ mask) (hp : p < 2 ^ 64) {j : Nat} (hj : j ≤ mask) : ∃ k, k < mask + 15 ∧ (orbit mask k (i, p)).1 = j := by
  have h0 : (orbit mask 13 (i, p)).2 = 0 := by
    rw [orbit_snd]
    refine Nat.div_eq_of_lt (Nat.lt_of_lt_of_le hp ?_)
    decide
  obtain ⟨k, hk, e⟩ := lcg_hits mask hm (orbit mask 13 (i, p)).1 (orbit_le mask 13 _ hi) j hj
  refine ⟨13 + k, by omega, ?_⟩
  rw [orbit_add]
  have : orbit mask 13 (i, p) = ((orbit mask 13 (i, p)).1, 0) := by rw [← h0]
  rw [this, orbit_zero]
  exact e

theorem runEnd_ge (mask i : Nat) : i ≤ SetTable.runEnd mask i := by unfold SetTable.runEnd; split <;> omega
theorem runEnd_le {mask i : Nat} (h : i ≤ mask) : SetTable.runEnd mask i ≤ mask := by unfold SetTable.runEnd; split <;> omega

theorem free_ok {mask : Nat} (owner : Array (Option Nat)) (hs : owner.size = mask + 1) : ∀ fuel i p, i ≤ mask → (∃ k, k < fuel ∧ owner.getD (orbit mask k (i, p)).1 (some 0) = none) →
    ∃ j, j ≤ mask ∧ owner.getD j (some 0) = none ∧ SetTable.layClean.free mask owner fuel i p = some j
  | 0, _, _, _, ⟨_, hk, _⟩ => absurd hk (Nat.not_lt_zero _)
  | fuel + 1, i, p, hi, ⟨k, hk, e⟩ => by
    unfold SetTable.layClean.free
    cases hf : (List.range (SetTable.runEnd mask i + 1 - i)).find? (fun k => (owner.getD (i + k) (some 0)).isNone) with
    | some q =>
      have h1 := List.find?_some hf
      have h2 := List.mem_range.mp (List.mem_of_find?_eq_some hf)
      have h3 := runEnd_le hi
      have h4 := runEnd_ge mask i
      exact ⟨i + q, by omega, by simpa using h1, rfl⟩
    | none =>
      have hno : owner.getD i (some 0) ≠ none := fun q => by
        have := List.find?_eq_none.mp hf 0 (List.mem_range.mpr (by have := runEnd_ge mask i; omega))
        rw [Nat.add_zero, q] at this
        simp at this
      cases k with
      | zero => exact absurd e hno
      | succ k =>
        exact free_ok owner hs fuel (SetTable.leap mask i p).1 (SetTable.leap mask i p).2 (Nat.lt_succ_iff.mp (Nat.mod_lt _ (Nat.succ_pos _))) ⟨k, Nat.lt_of_succ_lt_succ hk, e⟩

theorem filterMap_replicate_none {α : Type} : ∀ n, (List.replicate n (none : Option α)).filterMap id = []
  | 0 => rfl
  | n + 1 => by rw [List.replicate_succ, List.filterMap_cons_none rfl]; exact filterMap_replicate_none n
theorem filterMap_set {α : Type} {x : α} : ∀ {l : List (Option α)} {j : Nat}, l[j]? = some none → ((l.set j (some x)).filterMap id).Perm (x :: l.filterMap id)
  | [], _, h => by simp at h
  | a :: r, 0, h => by
    simp at h; subst h
    simp [List.set]
  | a :: r, j + 1, h => by
    have ih := filterMap_set (x := x) (l := r) (j := j) (by simpa using h)
    cases a with
    | none => simpa [List.set] using ih
    | some b =>
      simp only [List.set, List.filterMap_cons, id]
      exact (ih.cons b).trans (List.Perm.swap _ _ _)
theorem exists_none {α : Type} : ∀ {l : List (Option α)}, (l.filterMap id).length < l.length → ∃ j : Nat, l[j]? = some none
  | [], h => by simp at h
  | none :: r, _ => ⟨0, rfl⟩
  | some a :: r, h => by
    obtain ⟨j, e⟩ := exists_none (l := r) (by simpa using h)
    exact ⟨j + 1, by simpa using e⟩

def layStep (mask : Nat) (acc : Option (Array (Option Nat) × Nat)) (h : Int) : Option (Array (Option Nat) × Nat) := do
    let (owner, k) ← acc
    let j ← SetTable.layClean.free mask owner (SetTable.turns mask) (SetTable.bits h % (mask + 1)) (SetTable.bits h)
    pure (owner.setIfInBounds j (some k), k + 1)
theorem bits_lt (h : Int) : SetTable.bits h < 2 ^ 64 := by
  unfold SetTable.bits; omega
theorem layStep_ok {mask : Nat} (hm : mask = 7 ∨ mask = 15 ∨ mask = 31) : ∀ (hs : List Int) (owner : Array (Option Nat)) (k : Nat), owner.size = mask + 1 → (owner.toList.filterMap id).Perm (List.range k) → k + hs.length ≤ mask →
    ∃ ow, hs.foldl (layStep mask) (some (owner, k)) = some (ow, k + hs.length) ∧ ow.size = mask + 1 ∧ (ow.toList.filterMap id).Perm (List.range (k + hs.length))
  | [], owner, k, h1, h2, _ => ⟨owner, rfl, h1, h2⟩
  | h :: r, owner, k, h1, h2, h3 => by
    rw [List.length_cons] at h3
    obtain ⟨j0, e0⟩ := exists_none (l := owner.toList) (by rw [h2.length_eq, List.length_range, Array.length_toList, h1]; omega)
    have hj0 : j0 < owner.size := by
      have := (List.getElem?_eq_some_iff.mp e0).1
      simpa using this
    have e0' : owner.getD j0 (some 0) = none := by
      rw [Array.getElem?_toList] at e0
      simp [e0]
    obtain ⟨k0, hk0, ek0⟩ := orbit_hits hm (i := SetTable.bits h % (mask + 1)) (p := SetTable.bits h) (Nat.lt_succ_iff.mp (Nat.mod_lt _ (Nat.succ_pos _))) (bits_lt h) (j := j0) (by omega)
    obtain ⟨j, hj, ej, ef⟩ := free_ok owner h1 (SetTable.turns mask) (SetTable.bits h % (mask + 1)) (SetTable.bits h) (Nat.lt_succ_iff.mp (Nat.mod_lt _ (Nat.succ_pos _))) ⟨k0, hk0, by rw [ek0]; exact e0'⟩
    have hstep : layStep mask (some (owner, k)) h = some (owner.setIfInBounds j (some k), k + 1) := by
      show (SetTable.layClean.free mask owner (SetTable.turns mask) (SetTable.bits h % (mask + 1)) (SetTable.bits h)).bind _ = _
      rw [ef]; rfl
    have hjn : owner.toList[j]? = some none := by
      have hlt : j < owner.size := by omega
      rw [Array.getElem?_toList, Array.getElem?_eq_getElem hlt]
      rw [Array.getD_eq_getD_getElem?, Array.getElem?_eq_getElem hlt] at ej
      simpa using ej
    obtain ⟨ow, g1, g2, g3⟩ := layStep_ok hm r (owner.setIfInBounds j (some k)) (k + 1) (by simpa using h1) (by
      rw [Array.toList_setIfInBounds]
      refine (filterMap_set hjn).trans ((h2.cons k).trans ?_)
      rw [List.range_succ]
      exact (List.perm_append_singleton k (List.range k)).symm) (by omega)
    refine ⟨ow, ?_, g2, ?_⟩
    · rw [List.foldl_cons, hstep, g1, List.length_cons]; congr 2; omega
    · rw [List.length_cons]; have : k + (r.length + 1) = k + 1 + r.length := by omega
      rw [this]; exact g3

theorem layClean_ok {mask : Nat} (hm : mask = 7 ∨ mask = 15 ∨ mask = 31) (hs : Array Int) (hn : hs.size ≤ mask) :
    ∃ ow, SetTable.layClean mask hs = some ow ∧ ow.size = mask + 1 ∧ (ow.toList.filterMap id).Perm (List.range hs.size) := by
  obtain ⟨ow, g1, g2, g3⟩ := layStep_ok hm hs.toList (Array.replicate (mask + 1) none) 0 (by simp) (by rw [Array.toList_replicate, filterMap_replicate_none]; exact .rfl) (by simpa using hn)
  refine ⟨ow, ?_, g2, by simpa using g3⟩
  unfold SetTable.layClean
  rw [← Array.foldl_toList]
  show (hs.toList.foldl (layStep mask) (some (Array.replicate (mask + 1) none, 0))).map (·.1) = some ow
  rw [g1]; rfl

theorem laid_ok {mask : Nat} (hm : mask = 7 ∨ mask = 15 ∨ mask = 31) (f v : Nat) (l p : Bool) (hs : Array Int) (hn : hs.size ≤ mask) :
    ∃ t o, SetTable.laid mask f v l p hs = some (t, o) ∧ o.toList.Perm (List.range hs.size) ∧ t.fits hs.size = true ∧ t.led = l ∧ t.plain = p ∧ t.mask = mask ∧ t.dummies = #[] := by
  obtain ⟨ow, g1, g2, g3⟩ := layClean_ok hm hs hn
  have e1 : (List.filterMap (fun j => Option.map (fun x => (j, x)) (ow.getD j none)) (List.range (mask + 1))).map (·.2) = ow.toList.filterMap id := by
    rw [List.map_filterMap]
    have e2 : ow.toList = (List.range (mask + 1)).map fun j => ow.getD j none := by
      apply List.ext_getElem?
      intro j
      by_cases hj : j < mask + 1
      · rw [Array.getElem?_toList, Array.getElem?_eq_getElem (by omega)]
        simp [hj, Array.getElem?_eq_getElem (show j < ow.size by omega)]
      · rw [Array.getElem?_toList, Array.getElem?_eq_none (by omega), List.getElem?_eq_none (by simp; omega)]
    rw [e2, List.filterMap_map]
    congr 1
    funext j
    show Option.map _ (Option.map _ (ow.getD j none)) = ow.getD j none
    cases ow.getD j none <;> rfl
  have hlen : (List.filterMap (fun j => Option.map (fun x => (j, x)) (ow.getD j none)) (List.range (mask + 1))).length = hs.size := by
    have h1 := congrArg List.length e1
    rw [List.length_map, g3.length_eq, List.length_range] at h1
    exact h1
  refine ⟨_, _, by unfold SetTable.laid; rw [g1]; rfl, ?_, ?_, rfl, rfl, rfl, rfl⟩
  · show (List.map _ _).toArray.toList.Perm _
    rw [List.toList_toArray, e1]
    exact g3
  · show ((List.map _ _).toArray.size == hs.size && decide ((List.map _ _).toArray.size + 0 ≤ mask)) = true
    rw [List.size_toArray, List.length_map, hlen]
    simp [hn]
end Mine
namespace Mine
open PySem PySem.W PyProof.Rows PySem.Calls

section
variable {prog : Program} {w : World} {A : Around} {E : Value → Shared → Prop} {s : Shared} {h h' : Heap} {a : Addr} {es : Array (Int × Value)} {ep : Nat} {t : SetTable} {xs : List Str}

theorem relay_perm {order : Array Nat} (hp : order.toList.Perm (List.range es.size)) : (order.filterMap (es[·]?)).toList.Perm es.toList := by
  rw [Array.toList_filterMap]
  exact (hp.filterMap _).trans (by rw [filterMap_getElem?_range])
theorem relay_size {order : Array Nat} (hp : order.toList.Perm (List.range es.size)) : (order.filterMap (es[·]?)).size = es.size := by
  rw [← Array.length_toList, (relay_perm (es := es) hp).length_eq, Array.length_toList]

theorem rawRelay {wanted : Nat} {Q : Unit → Shared → Prop} (x : SRaw prog w s.heap a es ep t) (hm : SetTable.sizeAbove wanted - 1 = 7 ∨ SetTable.sizeAbove wanted - 1 = 15 ∨ SetTable.sizeAbove wanted - 1 = 31) (hn : es.size ≤ SetTable.sizeAbove wanted - 1)
    (h : ∀ h' es' t', Heap.SameBut a s.heap h' → SRaw prog w h' a es' (ep + 1) t' → es'.toList.Perm es.toList → t'.mask = SetTable.sizeAbove wanted - 1 → t'.dummies = #[] → Q () { s with heap := h' }) :
    wpAny (model prog w) A (setRelay a wanted) Q E s := by
  obtain ⟨t', order, g1, g2, g3, g4, g5, g6, g7⟩ := laid_ok hm t.finger (t.movedTo (SetTable.sizeAbove wanted - 1)) t.led t.plain (es.map (·.1)) (by simpa using hn)
  rw [Array.size_map] at g2 g3
  have hl : t.relaid (es.map (·.1)) wanted = some (t', order) := g1
  unfold setRelay
  refine wpAny_bind (x.state ?_)
  dsimp only
  have hsz : ¬ SetTable.sizeAbove wanted > sizeLine := by rw [sizeLine_eq]; omega
  rw [if_neg hsz, hl]
  refine wpAny_bind ?_
  wp_delta
  dsimp only
  rw [if_neg (by rw [relay_size g2]; simp)]
  refine wpAny_pure ?_
  dsimp only
  refine x.store (x.el.perm (relay_perm g2)) (by rw [relay_size g2]; exact x.few) (by rw [relay_size g2]; exact g3) g4 (fun hz => ?_) fun h1 hs1 x1 => h h1 _ t' hs1 x1 (relay_perm g2) g6 g7
  rw [relay_size g2] at hz
  exact g5.trans (x.plain hz)

/-- all of another set's content goes into a new one -/
theorem rawMerge {r o : Addr} {eo : Array (Int × Value)} {epo : Nat} {to : SetTable} {each : Sem Unit} {Q : Unit → Shared → Prop} (x : SRaw prog w s.heap r #[] 0 (.fresh 0 0 (!byText w))) (y : SRaw prog w s.heap o eo epo to) (hro : r ≠ o) (hn : eo.size ≤ 7)
    (h : ∀ h' es' ep' t', Heap.SameBut r s.heap h' → SRaw prog w h' r es' ep' t' → es'.toList.Perm eo.toList → Q () { s with heap := h' }) :
    wpAny (model prog w) A (setMerge r o each) Q E s := by
  unfold setMerge
  rw [if_neg (by simpa using hro)]
  refine wpAny_bind (y.state ?_)
  dsimp only
  by_cases he : eo.isEmpty = true
  · rw [if_pos he]
    have e0 : eo = #[] := by simpa using he
    subst e0
    exact wpAny_pure (h s.heap #[] 0 _ (Heap.SameBut.refl r s.heap) x .rfl)
  · rw [if_neg he]
    -- room first
    have room : ∀ Q' : Unit → Shared → Prop, (∀ h1 ep1 t1, Heap.SameBut r s.heap h1 → SRaw prog w h1 r #[] ep1 t1 → (t1.mask = 7 ∨ t1.mask = 15) → t1.dummies = #[] → eo.size ≤ t1.mask → Q' () { s with heap := h1 }) → wpAny (model prog w) A (setRoomFor r eo.size) Q' E s := by
      intro Q' hq
      unfold setRoomFor
      refine wpAny_bind (x.state ?_)
      dsimp only
      by_cases h5 : eo.size < 5
      · have e1 : (SetTable.fresh 0 0 (!byText w)).roomFor eo.size = none := by
          show (if (0 + eo.size) * 5 ≥ 7 * 3 then _ else none) = none
          rw [if_neg (by omega)]
        rw [e1]
        exact wpAny_pure (hq s.heap 0 _ (Heap.SameBut.refl r s.heap) x (.inl rfl) rfl (by show eo.size ≤ 7; omega))
      · have e1 : (SetTable.fresh 0 0 (!byText w)).roomFor eo.size = some ((0 + eo.size) * 2) := by
          show (if (0 + eo.size) * 5 ≥ 7 * 3 then some ((0 + eo.size) * 2) else none) = _
          rw [if_pos (by omega)]
        rw [e1]
        have hsz : SetTable.sizeAbove ((0 + eo.size) * 2) - 1 = 15 := by
          have : ∀ n, n < 8 → 5 ≤ n → SetTable.sizeAbove ((0 + n) * 2) - 1 = 15 := by decide
          exact this eo.size (by omega) (by omega)
        refine rawRelay x (.inr (.inl hsz)) (Nat.zero_le _) fun h1 es1 t1 hs1 x1 hp hm hd => ?_
        have e2 : es1 = #[] := by
          have := hp.length_eq
          rw [Array.length_toList, Array.length_toList] at this
          exact Array.eq_empty_of_size_eq_zero this
        subst e2
        exact hq h1 _ t1 hs1 x1 (.inr (hm.trans hsz)) hd (by rw [hm, hsz]; omega)
    refine wpAny_bind (room _ fun h1 ep1 t1 hs1 x1 hm1 hd1 hn1 => ?_)
    have y1 : SRaw prog w h1 o eo epo to := y.at fun ob e => (hs1.2 o (Ne.symm hro)).trans e
    refine wpAny_bind (SRaw.state (s := { s with heap := h1 }) x1 ?_)
    dsimp only
    have hfill : t1.fill = 0 := by
      have := x1.fits
      simp only [SetTable.fits, Bool.and_eq_true, beq_iff_eq] at this
      rw [SetTable.fill, this.1, hd1]; rfl
    have hne : eo.size ≠ 0 := fun q => he (by simpa using q)
    unfold SetTable.road
    rw [hfill]
    simp only [bne_self_eq_false, Bool.false_eq_true, if_false]
    by_cases hs : (t1.mask == to.mask && to.dummies.isEmpty) = true
    · rw [if_pos hs]
      dsimp only
      have hf : ({ to with finger := t1.finger, led := t1.led && to.led, moves := t1.moves, plain := t1.plain && to.plain } : SetTable).fits eo.size = true := y.fits
      refine SRaw.store (s := { s with heap := h1 }) x1 y1.el y1.few hf (by show (t1.led && to.led) = t1.led; rw [x1.led, y.led, Bool.and_self]) (fun hz => by show (t1.plain && to.plain) = false; rw [y.plain hz, Bool.and_false]) fun h2 hs2 x2 => ?_
      exact h h2 _ _ _ (hs1.trans hs2) x2 .rfl
    · rw [if_neg hs]
      dsimp only
      have hmm : t1.mask = 7 ∨ t1.mask = 15 ∨ t1.mask = 31 := by rcases hm1 with q | q; exact .inl q; exact .inr (.inl q)
      obtain ⟨t', order, g1, g2, g3, g4, g5, g6, g7⟩ := laid_ok hmm t1.finger t1.moves (t1.led && to.led) (t1.plain && to.plain) (eo.map (·.1)) (by simpa using hn1)
      rw [Array.size_map] at g2 g3
      rw [g1]
      refine wpAny_bind ?_
      wp_delta
      dsimp only
      rw [if_neg (by rw [relay_size g2]; simp)]
      refine wpAny_pure ?_
      dsimp only
      refine SRaw.store (s := { s with heap := h1 }) x1 (y.el.perm (relay_perm g2)) (by rw [relay_size g2]; exact y.few) (by rw [relay_size g2]; exact g3) (by rw [g4, x1.led, y.led, Bool.and_self]) (fun hz => ?_) fun h2 hs2 x2 => ?_
      · rw [g5, y.plain hne, Bool.and_false]
      · exact h h2 _ _ _ (hs1.trans hs2) x2 (relay_perm g2)

theorem ssetTidy {Q : Unit → Shared → Prop} (x : SSet prog w s.heap a xs) (hn : xs.length ≤ 7) (h : ∀ h', Heap.SameBut a s.heap h' → SSet prog w h' a xs → Q () { s with heap := h' }) : wpAny (model prog w) A (setTidy a) Q E s := by
  obtain ⟨es, ep, t, x, hp, hd⟩ := x
  have hsz := SRaw.size hp
  unfold setTidy
  refine wpAny_bind (x.state ?_)
  dsimp only
  split
  · have hk : ∀ n, n < 8 → (SetTable.sizeAbove (SetTable.grown n) - 1 = 7 ∨ SetTable.sizeAbove (SetTable.grown n) - 1 = 15 ∨ SetTable.sizeAbove (SetTable.grown n) - 1 = 31) ∧ n ≤ SetTable.sizeAbove (SetTable.grown n) - 1 := by decide
    obtain ⟨k1, k2⟩ := hk es.size (by omega)
    exact rawRelay x k1 k2 fun h1 es1 t1 hs1 x1 hp1 _ _ => h h1 hs1 ⟨es1, _, t1, x1, (keysOf_perm hp1).trans hp, hd⟩
  · exact wpAny_pure (h s.heap (Heap.SameBut.refl a s.heap) ⟨es, ep, t, x, hp, hd⟩)

theorem map_eraseIdx {α β : Type} (f : α → β) : ∀ (l : List α) (i : Nat), (l.eraseIdx i).map f = (l.map f).eraseIdx i
  | [], _ => by simp
  | _ :: _, 0 => rfl
  | a :: r, i + 1 => by simp [map_eraseIdx f r i]
theorem perm_eraseIdx {α : Type} : ∀ (l : List α) (i : Nat) (h : i < l.length), (l[i] :: l.eraseIdx i).Perm l
  | [], _, h => absurd h (Nat.not_lt_zero _)
  | _ :: _, 0, _ => .rfl
  | a :: r, i + 1, h => (List.Perm.swap _ _ _).trans ((perm_eraseIdx r i (Nat.lt_of_succ_lt_succ h)).cons a)

theorem eraseAt_toList {α : Type} (xs : Array α) (p : Nat) : (SetTable.eraseAt xs p).toList = xs.toList.eraseIdx p := by
  rw [List.eraseIdx_eq_take_drop_succ]
  simp [SetTable.eraseAt, List.extract_eq_take_drop, List.take_of_length_le]

theorem drop_fits {n i : Nat} (hf : t.fits n = true) (hi : i < n) : (t.drop i).fits (n - 1) = true ∧ (t.drop i).led = t.led ∧ (t.drop i).plain = t.plain := by
  simp only [SetTable.fits, Bool.and_eq_true, beq_iff_eq, decide_eq_true_eq] at hf
  have hi' : i < t.place.size := by omega
  unfold SetTable.drop
  rw [Array.getElem?_eq_getElem hi']
  dsimp only
  refine ⟨?_, rfl, rfl⟩
  have h1 : (SetTable.eraseAt t.place i).size = n - 1 := by
    rw [← Array.length_toList, eraseAt_toList, List.length_eraseIdx, Array.length_toList, if_pos hi', hf.1]
  have h2 : ∀ p x, (SetTable.insertAt t.dummies p x).size = t.dummies.size + 1 := fun p x => by
    rw [← Array.length_toList, (SetTable.insertAt_perm t.dummies p x).length_eq, Array.length_toList, Array.size_push]
  have h3 := hf.2
  have h4 : t.place.size + t.dummies.size ≤ t.mask := h3
  show ((SetTable.eraseAt t.place i).size == n - 1 && decide ((SetTable.eraseAt t.place i).size + (SetTable.insertAt t.dummies _ _).size ≤ t.mask)) = true
  rw [Bool.and_eq_true, beq_iff_eq]
  refine ⟨h1, decide_eq_true ?_⟩
  rw [h1, h2]; omega

theorem ssetDiscardHashed {k : Str} {tk : Tok} {R : Bool → Shared → Prop} (x : SSet prog w s.heap a xs)
    (h : ∀ h', Heap.SameBut a s.heap h' → SSet prog w h' a (xs.erase k) → R (decide (k ∈ xs)) { s with heap := h' }) :
    wpAny (model prog w) A (setDiscardHashed a (.str k tk) ((strKind prog w).hash k)) R E s := by
  obtain ⟨es, ep, t, x, hp, hd⟩ := x
  unfold setDiscardHashed
  refine wpAny_bind (ssetFind x ?_)
  cases hr : List.findIdx? (· == k) (keysOf es.toList) with
  | none =>
    have hno : k ∉ keysOf es.toList := fun hm => by
      have := List.findIdx?_eq_none_iff.mp hr k hm
      simp at this
    have hno' : k ∉ xs := fun q => hno (hp.mem_iff.mpr q)
    dsimp only
    have := h s.heap (Heap.SameBut.refl a s.heap) ⟨es, ep, t, x, by rw [List.erase_of_not_mem hno']; exact hp, hd.erase k⟩
    rw [decide_eq_false hno'] at this
    exact wpAny_pure this
  | some i =>
    dsimp only
    obtain ⟨hi, hpi, _⟩ := List.findIdx?_eq_some_iff_getElem.mp hr
    have hk : (keysOf es.toList)[i] = k := eq_of_beq hpi
    have hi' : i < es.size := by simpa [keysOf] using hi
    have hmem : k ∈ xs := hp.mem_iff.mp (hk ▸ List.getElem_mem hi)
    refine wpAny_bind (x.state ?_)
    dsimp only
    have hsz : (SetTable.eraseAt es i).size = es.size - 1 := by
      rw [← Array.length_toList, eraseAt_toList, List.length_eraseIdx, Array.length_toList, if_pos hi']
    obtain ⟨f1, f2, f3⟩ := drop_fits x.fits hi'
    refine wpAny_bind (x.store (es' := SetTable.eraseAt es i) (t' := t.drop i) ?_ ?_ ?_ f2 ?_ fun h1 hs1 x1 => wpAny_bind (wpAny_point (wpAny_pure ?_)))
    · intro e he
      rw [eraseAt_toList] at he
      exact x.el e (List.mem_of_mem_eraseIdx he)
    · rw [hsz]; have := x.few; omega
    · rw [hsz]; exact f1
    · intro _; rw [f3]; exact x.plain (by omega)
    · have := h h1 hs1 ⟨_, _, _, x1, ?_, hd.erase k⟩
      · rw [decide_eq_true hmem] at this; exact this
      · have e1 : keysOf (SetTable.eraseAt es i).toList = (keysOf es.toList).eraseIdx i := by
          rw [eraseAt_toList, keysOf, keysOf, map_eraseIdx]
        rw [e1]
        have p1 : ((keysOf es.toList)[i] :: (keysOf es.toList).eraseIdx i).Perm (keysOf es.toList) := perm_eraseIdx _ i hi
        rw [hk] at p1
        have p2 := (p1.trans hp).erase k
        rw [List.erase_cons_head] at p2
        exact p2
theorem ssetDiscard {k : Str} {tk : Tok} {R : Bool → Shared → Prop} (x : SSet prog w s.heap a xs)
    (h : ∀ h' tok, Heap.SameBut a s.heap h' → SSet prog w h' a (xs.erase k) → R (decide (k ∈ xs)) { s with heap := h', toks := tok }) :
    wpAny (model prog w) A (setDiscard a (.str k tk)) R E s := by
  unfold setDiscard
  refine wpAny_holding (wpAny_bind ((strKind prog w).pyHash (strKind_is prog w k tk) ?_))
  exact ssetDiscardHashed (s := { s with toks := s.toks + 1 }) x fun h' hs hx => h h' _ hs hx
end
end Mine
namespace Mine
open PySem PySem.W PyProof.Rows PySem.Calls

theorem slot_seti_next : Slot "set_iterator" "__next__" "set_iterator.__next__" :=
  .of (owner := "set_iterator") (n := "__next__") (by rw [typeLookup_type, builtinLookup_eq_fast]; kernel_rfl) (by decide +kernel) (by decide +kernel) (by decide +kernel)
    (by first | exact .inl (by decide +kernel) | exact .inr (by decide +kernel)) (by rw [isSubtype_type]; kernel_rfl)
theorem entry_seti_next : entryFor table "set_iterator.__next__" = some Builtin.«set_iterator.__next__» := entryFor_of_tree (by kernel_rfl)
theorem owner_seti : Manifest.owners.lookup (String.ofList ['r', 'o', 't', 'a', 'r', 'e', 't', 'i', '_', 't', 'e', 's'].reverse) = some Manifest.sig_set_iterator := by kernel_rfl
theorem args_seti_next (a : Value) : argsOk "set_iterator.__next__" ⟨[a], []⟩ := by
  unfold argsOk; rw [signature?_of (id := "set_iterator.__next__") (n := ['_', '_', 't', 'x', 'e', 'n', '_', '_']) (o := ['r', 'o', 't', 'a', 'r', 'e', 't', 'i', '_', 't', 'e', 's']) (by kernel_rfl) owner_seti]; kernel_rfl
theorem slot_seti_iter : Slot "set_iterator" "__iter__" "set_iterator.__iter__" :=
  .of (owner := "set_iterator") (n := "__iter__") (by rw [typeLookup_type, builtinLookup_eq_fast]; kernel_rfl) (by decide +kernel) (by decide +kernel) (by decide +kernel)
    (by first | exact .inl (by decide +kernel) | exact .inr (by decide +kernel)) (by rw [isSubtype_type]; kernel_rfl)
theorem args_seti_iter (a : Value) : argsOk "set_iterator.__iter__" ⟨[a], []⟩ := by
  unfold argsOk; rw [signature?_of (id := "set_iterator.__iter__") (n := ['_', '_', 'r', 'e', 't', 'i', '_', '_']) (o := ['r', 'o', 't', 'a', 'r', 'e', 't', 'i', '_', 't', 'e', 's']) (by kernel_rfl) owner_seti]; kernel_rfl
theorem entry_set_iter : entryFor table "set.__iter__" = some Builtin.«frozenset.__iter__» :=
  entryFor_alias (id' := "frozenset.__iter__") (by kernel_rfl) rfl (by decide +kernel) (by kernel_rfl)
theorem entry_set_sub : entryFor table "set.__sub__" = some Builtin.«frozenset.__sub__» :=
  entryFor_alias (id' := "frozenset.__sub__") (by kernel_rfl) rfl (by decide +kernel) (by kernel_rfl)
theorem entry_set_repr : entryFor table "set.__repr__" = some Builtin.«frozenset.__repr__» :=
  entryFor_alias (id' := "frozenset.__repr__") (by kernel_rfl) rfl (by decide +kernel) (by kernel_rfl)
theorem entry_seti_iter : entryFor table "set_iterator.__iter__" = some Builtin.«dict_keyiterator.__iter__» :=
  entryFor_alias (id' := "dict_keyiterator.__iter__") (by kernel_rfl) rfl (by decide +kernel) (by kernel_rfl)
end Mine
namespace Mine
open PySem PySem.W PyProof.Rows PySem.Calls

theorem drawnAny {M : Model} {A : Around} {E : Value → Shared → Prop} {s : Shared} {n : Nat} {src : Source} {Q : Nat → Shared → Prop} (hn : n ≠ 0) (h : ∀ i dr, i < n → Q i { s with drawn := dr }) : wpAny M A (choose src n) Q E s :=
  fun _ _ _ => ⟨hn, h _ _ (Nat.mod_lt _ (Nat.pos_of_ne_zero hn))⟩
theorem drawnOrder {M : Model} {A : Around} {E : Value → Shared → Prop} {α : Type} : ∀ (n : Nat) (xs : List α) (s : Shared) (Q : List α → Shared → Prop), n = xs.length → (∀ ys dr, ys.Perm xs → Q ys { s with drawn := dr }) → wpAny M A (drawOrder n xs) Q E s
  | 0, xs, s, Q, hn, h => by
    have : xs = [] := List.length_eq_zero_iff.mp hn.symm
    subst this
    exact wpAny_pure (h [] s.drawn .rfl)
  | n + 1, [], _, _, hn, _ => by simp at hn
  | n + 1, x :: r, s, Q, hn, h => by
    show wpAny M A (choose .order (x :: r).length >>= _) Q E s
    refine wpAny_bind (drawnAny (by simp) fun i dr hi => ?_)
    have e : (x :: r)[i]? = some (x :: r)[i] := List.getElem?_eq_getElem hi
    rw [e]
    dsimp only
    refine wpAny_bind (drawnOrder n _ _ _ (by rw [List.length_eraseIdx, if_pos hi]; simp at hn ⊢; omega) fun ys dr hp => wpAny_pure (h _ dr ?_))
    exact (hp.cons _).trans (perm_eraseIdx _ i hi)
theorem pickGo_perm {α : Type} (next : Nat → Nat) : ∀ (fuel k : Nat) (left : List α) (out : Array α), fuel = left.length → (pickOrder.go next fuel k left out).toList.Perm (out.toList ++ left)
  | 0, k, left, out, h => by
    have : left = [] := List.length_eq_zero_iff.mp h.symm
    subst this
    rw [List.append_nil]; exact .rfl
  | fuel + 1, k, left, out, h => by
    have hl : 0 < left.length := by omega
    have hi : next k % left.length < left.length := Nat.mod_lt _ hl
    unfold pickOrder.go
    rw [List.getElem?_eq_getElem hi]
    refine (pickGo_perm next fuel (k + 1) _ _ (by rw [List.length_eraseIdx, if_pos hi]; omega)).trans ?_
    rw [Array.toList_push, List.append_assoc]
    exact (perm_eraseIdx left _ hi).append_left out.toList
theorem pick_perm {α : Type} (next : Nat → Nat) (xs : Array α) : (pickOrder next xs).toList.Perm xs.toList := by
  have := pickGo_perm next xs.size 0 xs.toList #[] (by simp)
  simpa [pickOrder] using this

def IsSetIter (h : Heap) (I : Addr) (first : Value) (i : Nat) (a : Addr) (n ep : Nat) : Prop :=
  ∃ o, h.get? I = some o ∧ o.cls = .type "set_iterator" ∧ o.data = .fields #[first, rawInt i, .ref a, rawInt n, rawInt ep]
theorem IsSetIter.typeIs {s : Shared} {I first i a n ep} (x : IsSetIter s.heap I first i a n ep) : s.TypeIs (.ref I) "set_iterator" := let ⟨o, ho, hc, _⟩ := x; ⟨o, ho, hc⟩
theorem IsSetIter.at {h h' : Heap} {I first i a n ep} (x : IsSetIter h I first i a n ep) (e : ∀ o, h.get? I = some o → h'.get? I = some o) : IsSetIter h' I first i a n ep := let ⟨o, ho, r⟩ := x; ⟨o, e _ ho, r⟩

section
variable {prog : Program} {w : World} {A : Around} {E : Value → Shared → Prop} {s : Shared} {h h' : Heap} {a I : Addr} {es : Array (Int × Value)} {ep : Nat} {t : SetTable} {xs : List Str}

theorem SRaw.drawn {Q : Bool → Shared → Prop} (x : SRaw prog w s.heap a es ep t) (h : Q (!byText w && (!t.plain && decide (es.size > 1))) s) : wpAny (model prog w) A (setDrawn a) Q E s := by
  unfold setDrawn
  refine wpAny_bind (x.state ?_)
  dsimp only
  exact wpAny_bind (asksText (wpAny_pure h))

/-- the whole walk at once -/
theorem SRaw.walk {Q : Array (Int × Value) → Shared → Prop} (x : SRaw prog w s.heap a es ep t) (h : ∀ es' dr, es'.toList.Perm es.toList → Q es' { s with drawn := dr }) : wpAny (model prog w) A (setWalk a) Q E s := by
  unfold setWalk
  refine wpAny_bind (x.state ?_)
  dsimp only
  refine wpAny_bind (asksText ?_)
  cases hb : byText w with
  | true =>
    rw [if_pos rfl]
    exact wpAny_bind (wpAny_askSetting (wpAny_pure (h _ s.drawn (pick_perm _ _))))
  | false =>
    rw [if_neg Bool.false_ne_true]
    refine wpAny_ite_split (fun _ => ?_) (fun hd => ?_)
    · refine wpAny_bind (drawnOrder _ _ _ _ (by simp) fun ys dr hp => wpAny_pure (h ys.toArray dr (by simpa using hp)))
    · refine wpAny_bind ?_
      wp_delta
      refine wpAny_ite_split (fun hc => ?_) (fun _ => wpAny_pure (wpAny_pure (h es s.drawn .rfl)))
      exfalso
      rw [x.led, hb] at hc
      simp at hc

theorem nextBody {Q : Option Value → Shared → Prop} (hT : s.TypeIs (.ref I) "set_iterator")
    (h : wpAny (model prog w) A.in1 (Builtin.«set_iterator.__next__» ⟨[.ref I], []⟩) (fun fin s' => ∃ v, fin = .done (.ret v) ∧ Q (some v) s') (fun e s' => s'.TypeIs e "StopIteration" ∧ Q none s') s) :
    wpAny (model prog w) A (pyNext (.ref I)) Q E s := by
  unfold pyNext
  refine wpAny_bind (wpAny_attempt (wpAny_callSpecial?_slot (name := Str.ofString "__next__") hT slot_seti_next
    (wpAny_call_entry slot_seti_next hT entry_seti_next ?_ (args_seti_next _))))
  refine wpAny_mono h (fun fin s' hf => ?_) (fun e s' he => ?_)
  · obtain ⟨v, rfl, hq⟩ := hf
    exact ⟨_, rfl, wpAny_pure hq⟩
  · refine wpAny_bind (wpAny_isInstance (T := "StopIteration") (b := true) he.1 isSubtype_stop ?_)
    exact wpAny_pure he.2

theorem stopTail {Q : Fin → Shared → Prop} {E : Value → Shared → Prop} (hh : A.handled = none) (h : ∀ e h', (∀ b o, s.heap.get? b = some o → h'.get? b = some o) → ({ s with heap := h' } : Shared).TypeIs e "StopIteration" → E e { s with heap := h' }) :
    wpAny (model prog w) A (do raiseNew (← newExc (.type "StopIteration") []) : Sem Fin) Q E s := by
  show wpAny _ _ (newExc (.type "StopIteration") [] >>= _) _ _ _
  refine wpAny_bind ?_
  simp only [newExc, newTuple]
  refine wpAny_bind (wpAny_newObj_type ?_ (by size_fits))
  refine wpAny_bind (m := firstArgMember _ _) (wpAny_of_eq (a := Value.none) (by first | rfl | (simp only [firstArgMember]; rfl)) ?_)
  refine wpAny_newObj_type ?_ (by size_fits)
  simp only [raiseNew]
  refine wpAny_bind (wpAny_handled ?_)
  rw [hh]
  refine wpAny_bind (wpAny_pure (wpAny_throw ?_))
  exact h _ _ (fun b o e => Heap.get?_push_of_some _ (Heap.get?_push_of_some _ e)) ⟨_, Heap.get?_push_size _ rfl, rfl⟩
end
end Mine
namespace Mine
open PySem PySem.W PyProof.Rows PySem.Calls
section
variable {prog : Program} {w : World} {A : Around} {E : Value → Shared → Prop} {s : Shared} {h h' : Heap} {a I : Addr} {es : Array (Int × Value)} {ep : Nat} {t : SetTable} {xs : List Str}

theorem IsSetIter.ne {y : Addr} {o : Obj} {h : Heap} {I : Addr} {first : Value} {i : Nat} {a : Addr} {n ep : Nat} (x : IsSetIter h I first i a n ep) (ho : h.get? y = some o) (hc : o.cls ≠ .type "set_iterator") : y ≠ I := fun e => by
  obtain ⟨o', ho', hc', _⟩ := x
  rw [e, ho'] at ho; cases ho; exact hc hc'

theorem setFieldKeep {o : Obj} {vs : Array Value} {k : Nat} {v : Value} {Q : Unit → Shared → Prop} (ho : s.heap.get? I = some o) (hd : o.data = .fields vs) (hk : k < vs.size)
    (h : ∀ h' o', Heap.SameBut I s.heap h' → h'.get? I = some o' → o'.cls = o.cls → o'.data = .fields (vs.setIfInBounds k v) → Q () { s with heap := h' }) :
    wpAny (model prog w) A (setField (.ref I) k v) Q E s := by
  refine wpAny_setField ho hd hk (h _ _ (Heap.SameBut.update ..) (Heap.get?_update_self _ ho (Obj.isFreed_of_fields (Obj.data_mapFields hd _))) (Obj.cls_mapFields ..) ?_)
  rw [Obj.data_mapFields hd]

theorem nextInt_item {slot slot' : Nat} {i n : Nat} {v : Value} {Q : Option Value → Shared → Prop} (hit : IsSetIter s.heap I (rawInt slot) i a n ep) (x : SRaw prog w s.heap a es ep t) (hn : n = es.size)
    (hnext : ∀ (Q' : Option (Value × Nat) → Shared → Prop) E', Q' (some (v, slot')) s → wpAny (model prog w) A.in1 (setNext a slot i ep) Q' E' s)
    (hQ : ∀ h', IsSetIter h' I (rawInt slot') (i + 1) a n ep → Heap.ExtBut I s.heap h' → Q (some v) { s with heap := h' }) :
    wpAny (model prog w) A (pyNext (.ref I)) Q E s := by
  obtain ⟨o, ho, hc, hd⟩ := id hit
  refine nextBody hit.typeIs ?_
  unfold Builtin.«set_iterator.__next__»
  refine wpAny_bind (wpAny_pure ?_)
  refine wpAny_bind (wpAny_fieldsOf ho hd ?_)
  dsimp only [rawInt]
  refine wpAny_bind (x.entries ?_)
  rw [if_neg (by rw [hn]; simp)]
  simp only [Int.toNat_natCast]
  refine wpAny_bind (hnext _ _ ?_)
  dsimp only
  refine wpAny_bind (setFieldKeep ho hd (by simp) fun h1 o1 s1 ho1 hc1 hd1 => ?_)
  refine wpAny_bind (setFieldKeep (s := { s with heap := h1 }) ho1 hd1 (by simp) fun h2 o2 s2 ho2 hc2 hd2 => ?_)
  refine wpAny_pure ⟨v, rfl, hQ h2 ⟨o2, ho2, (hc2.trans hc1).trans hc, ?_⟩ (s1.trans s2).extBut⟩
  rw [hd2]; simp [rawInt]

theorem nextInt_end {slot : Nat} {i n : Nat} {Q : Option Value → Shared → Prop} (hh : A.handled = none) (hit : IsSetIter s.heap I (rawInt slot) i a n ep) (x : SRaw prog w s.heap a es ep t) (hn : n = es.size)
    (hnext : ∀ (Q' : Option (Value × Nat) → Shared → Prop) E', Q' none s → wpAny (model prog w) A.in1 (setNext a slot i ep) Q' E' s)
    (hQ : ∀ h', Heap.ExtBut I s.heap h' → Q none { s with heap := h' }) :
    wpAny (model prog w) A (pyNext (.ref I)) Q E s := by
  obtain ⟨o, ho, hc, hd⟩ := id hit
  refine nextBody hit.typeIs ?_
  unfold Builtin.«set_iterator.__next__»
  refine wpAny_bind (wpAny_pure ?_)
  refine wpAny_bind (wpAny_fieldsOf ho hd ?_)
  dsimp only [rawInt]
  refine wpAny_bind (x.entries ?_)
  rw [if_neg (by rw [hn]; simp)]
  simp only [Int.toNat_natCast]
  refine wpAny_bind (hnext _ _ ?_)
  dsimp only
  refine wpAny_bind (setFieldKeep ho hd (by simp) fun h1 o1 s1 ho1 hc1 hd1 => ?_)
  refine stopTail (A := A.in1) (s := { s with heap := h1 }) hh fun e h2 hk hT => ⟨hT, ?_⟩
  exact hQ h2 fun b ob hb e => hk b ob (s1.extBut b ob hb e)

theorem nextTup_item {T : Addr} {i n : Nat} {v : Value} {places : List Nat} {p : Nat} {oT : Obj} {Q : Option Value → Shared → Prop} (hit : IsSetIter s.heap I (.ref T) i a n ep) (x : SRaw prog w s.heap a es ep t) (hn : n = es.size)
    (hT : s.heap.get? T = some oT) (hcT : oT.cls = .type "tuple") (hdT : oT.data = .seq (places.map fun (j : Nat) => rawInt j).toArray) (hp : places[i]? = some p) {e : Int × Value} (he : es[p]? = some e) (hv : e.2 = v)
    (hQ : ∀ h', IsSetIter h' I (.ref T) (i + 1) a n ep → Heap.ExtBut I s.heap h' → Q (some v) { s with heap := h' }) :
    wpAny (model prog w) A (pyNext (.ref I)) Q E s := by
  obtain ⟨o, ho, hc, hd⟩ := id hit
  refine nextBody hit.typeIs ?_
  unfold Builtin.«set_iterator.__next__»
  refine wpAny_bind (wpAny_pure ?_)
  refine wpAny_bind (wpAny_fieldsOf ho hd ?_)
  dsimp only [rawInt]
  refine wpAny_bind (x.entries ?_)
  rw [if_neg (by rw [hn]; simp)]
  refine wpAny_bind (wpAny_seqItems hT hdT ?_)
  have e1 : (places.map fun (j : Nat) => rawInt j).toArray[i]? = some (rawInt p) := by simp [hp]
  simp only [Int.toNat_natCast]
  rw [e1]
  dsimp only [rawInt]
  simp only [Int.toNat_natCast]
  unfold setNextDrawn
  refine wpAny_bind (wpAny_bind (x.state ?_))
  dsimp only
  rw [if_neg (by simp), he]
  refine wpAny_pure ?_
  refine wpAny_bind (setFieldKeep ho hd (by simp) fun h1 o1 s1 ho1 hc1 hd1 => ?_)
  refine wpAny_pure ⟨v, by rw [← hv], hQ h1 ⟨o1, ho1, hc1.trans hc, ?_⟩ s1.extBut⟩
  rw [hd1]; simp [rawInt]

theorem nextTup_end {T : Addr} {i n : Nat} {places : List Nat} {oT : Obj} {Q : Option Value → Shared → Prop} (hh : A.handled = none) (hit : IsSetIter s.heap I (.ref T) i a n ep) (x : SRaw prog w s.heap a es ep t) (hn : n = es.size)
    (hT : s.heap.get? T = some oT) (hcT : oT.cls = .type "tuple") (hdT : oT.data = .seq (places.map fun (j : Nat) => rawInt j).toArray) (hp : places[i]? = none)
    (hQ : ∀ h', Heap.ExtBut I s.heap h' → Q none { s with heap := h' }) :
    wpAny (model prog w) A (pyNext (.ref I)) Q E s := by
  obtain ⟨o, ho, hc, hd⟩ := id hit
  refine nextBody hit.typeIs ?_
  unfold Builtin.«set_iterator.__next__»
  refine wpAny_bind (wpAny_pure ?_)
  refine wpAny_bind (wpAny_fieldsOf ho hd ?_)
  dsimp only [rawInt]
  refine wpAny_bind (x.entries ?_)
  rw [if_neg (by rw [hn]; simp)]
  refine wpAny_bind (wpAny_seqItems hT hdT ?_)
  have e1 : (places.map fun (j : Nat) => rawInt j).toArray[i]? = none := by simpa using hp
  simp only [Int.toNat_natCast]
  rw [e1]
  dsimp only
  refine wpAny_bind (setFieldKeep ho hd (by simp) fun h1 o1 s1 ho1 hc1 hd1 => ?_)
  refine wpAny_bind (setFieldKeep (s := { s with heap := h1 }) ho1 hd1 (by simp) fun h2 o2 s2 ho2 hc2 hd2 => ?_)
  refine stopTail (A := A.in1) (s := { s with heap := h2 }) hh fun e h3 hk hT => ⟨hT, ?_⟩
  exact hQ h3 fun b ob hb e => hk b ob ((s1.trans s2).extBut b ob hb e)
end
end Mine
namespace Mine
open PySem PySem.W PyProof.Rows PySem.Calls
section
variable {prog : Program} {w : World} {A : Around} {E : Value → Shared → Prop} {s : Shared} {h h' : Heap} {a I : Addr} {es : Array (Int × Value)} {ep : Nat} {t : SetTable} {xs : List Str}

theorem iterSelf {first : Value} {i n : Nat} {Q : Value → Shared → Prop} (hit : IsSetIter s.heap I first i a n ep) (h : Q (.ref I) s) : wpAny (model prog w) A (pyIter (.ref I)) Q E s := by
  refine wpAny_pyIter_slot hit.typeIs slot_seti_iter (wpAny_call_entry slot_seti_iter hit.typeIs entry_seti_iter ?_ (args_seti_iter _))
  show wpAny _ _ (ret (.ref I)) _ _ s
  exact wpAny_pure ⟨_, rfl, "set_iterator", _, hit.typeIs, slot_seti_next.lookup, h⟩

theorem keysOf_at {l : List (Int × Value)} (he : ElemsOf (strKind prog w) l) {i : Nat} {e : Int × Value} (h : l[i]? = some e) : ∃ t, e.2 = .str (keyOf e) t := by
  obtain ⟨k, tk, rfl, e2⟩ := elem_str (he e (List.mem_of_getElem? h)).1
  exact ⟨tk, by rw [e2]⟩

/-- by the text of the world's order -/
theorem Walks.setText (hh : A.handled = none) (hne : a ≠ I) (hb : byText w = true) (hel : ElemsOf (strKind prog w) es.toList) :
    Walks prog w A I [I, a] [I] es.size (fun i v => ∃ t, ∃ k, (keysOf (pickOrder (w.params.setOrder a ep) es).toList)[i]? = some k ∧ v = .str k t)
      (fun i h => IsSetIter h I (rawInt 0) i a es.size ep ∧ SRaw prog w h a es ep t) where
  sub := fun b hb => by simp at hb; simp [hb]
  frame := fun _ _ _ st hk => ⟨st.1.at fun o e => hk I (by simp) o e, st.2.at fun o e => hk a (by simp) o e⟩
  item := fun i s Q E hi st hQ => by
    have hp := pick_perm (w.params.setOrder a ep) es
    have hlen : (pickOrder (w.params.setOrder a ep) es).toList.length = es.size := by rw [hp.length_eq, Array.length_toList]
    have hi' : i < (pickOrder (w.params.setOrder a ep) es).toList.length := by rw [hlen]; exact hi
    have e1 := List.getElem?_eq_getElem hi'
    obtain ⟨tk, ev⟩ := keysOf_at (prog := prog) (w := w) (hel.perm hp) e1
    refine nextInt_item (slot := 0) (slot' := 0) (v := ((pickOrder (w.params.setOrder a ep) es).toList[i]).2) st.1 st.2 rfl (fun Q' E' hq => ?_) fun h' hit' hs' => ?_
    · unfold setNext
      refine wpAny_bind (st.2.state ?_)
      dsimp only
      refine wpAny_bind (asksText ?_)
      rw [hb, if_pos rfl, if_neg (by simp)]
      refine wpAny_bind ?_
      unfold setWalk
      refine wpAny_bind (st.2.state ?_)
      dsimp only
      refine wpAny_bind (asksText ?_)
      rw [hb, if_pos rfl]
      refine wpAny_bind (wpAny_askSetting (wpAny_pure ?_))
      refine wpAny_pure ?_
      have e2 : (pickOrder (w.params.setOrder a ep) es)[i]? = some (pickOrder (w.params.setOrder a ep) es).toList[i] := by rw [← Array.getElem?_toList]; exact e1
      show Q' (((pickOrder (w.params.setOrder a ep) es)[i]?).map fun e => (e.2, 0)) s
      rw [e2]; exact hq
    · exact hQ _ h' s.toks ⟨tk, _, by rw [keysOf, List.getElem?_map, e1]; rfl, ev⟩ ⟨hit', st.2.at fun o e => hs' a o hne e⟩ fun b o hb e => hs' b o (fun q => hb (by simp [q])) e
  done := fun s Q E st hQ => by
    have hp := pick_perm (w.params.setOrder a ep) es
    have hlen : (pickOrder (w.params.setOrder a ep) es).toList.length = es.size := by rw [hp.length_eq, Array.length_toList]
    refine nextInt_end (slot := 0) hh st.1 st.2 rfl (fun Q' E' hq => ?_) fun h' he' => hQ h' s.toks fun b o hb e => he' b o (fun q => hb (by simp [q])) e
    unfold setNext
    refine wpAny_bind (st.2.state ?_)
    dsimp only
    refine wpAny_bind (asksText ?_)
    rw [hb, if_pos rfl, if_neg (by simp)]
    refine wpAny_bind ?_
    unfold setWalk
    refine wpAny_bind (st.2.state ?_)
    dsimp only
    refine wpAny_bind (asksText ?_)
    rw [hb, if_pos rfl]
    refine wpAny_bind (wpAny_askSetting (wpAny_pure ?_))
    refine wpAny_pure ?_
    have e2 : (pickOrder (w.params.setOrder a ep) es)[es.size]? = none := by rw [← Array.getElem?_toList]; exact List.getElem?_eq_none (by rw [hlen]; exact Nat.le_refl _)
    show Q' (((pickOrder (w.params.setOrder a ep) es)[es.size]?).map fun e => (e.2, 0)) s
    rw [e2]; exact hq
  self := fun _ _ _ _ st hQ => iterSelf st.1 hQ

theorem Walks.setDrawn {T : Addr} {places : List Nat} (hh : A.handled = none) (hne : a ≠ I) (hTI : T ≠ I) (hel : ElemsOf (strKind prog w) es.toList) (hpl : places.Perm (List.range es.size)) :
    Walks prog w A I [I, a, T] [I] es.size (fun i v => ∃ t, ∃ k, (keysOf (places.filterMap (es[·]?)))[i]? = some k ∧ v = .str k t)
      (fun i h => IsSetIter h I (.ref T) i a es.size ep ∧ SRaw prog w h a es ep t ∧ ∃ oT, h.get? T = some oT ∧ oT.cls = .type "tuple" ∧ oT.data = .seq (places.map fun (j : Nat) => rawInt j).toArray) where
  sub := fun b hb => by simp at hb; simp [hb]
  frame := fun _ _ _ st hk => ⟨st.1.at fun o e => hk I (by simp) o e, st.2.1.at fun o e => hk a (by simp) o e, let ⟨oT, x, y⟩ := st.2.2; ⟨oT, hk T (by simp) _ x, y⟩⟩
  item := fun i s Q E hi st hQ => by
    obtain ⟨oT, hT, hcT, hdT⟩ := st.2.2
    have hlen : places.length = es.size := by rw [hpl.length_eq, List.length_range]
    have hi' : i < places.length := by rw [hlen]; exact hi
    have hlt : ∀ p ∈ places, p < es.size := fun p hp => List.mem_range.mp (hpl.mem_iff.mp hp)
    have e1 := List.getElem?_eq_getElem hi'
    have hpi := hlt _ (List.getElem_mem hi')
    have e2 : es[places[i]]? = some es[places[i]] := Array.getElem?_eq_getElem hpi
    have efm : ∀ l : List Nat, (∀ p ∈ l, p < es.size) → l.filterMap (es[·]?) = l.map fun p => es.getD p (0, .none) := by
      intro l hl
      induction l with
      | nil => rfl
      | cons p r ih =>
        have : es[p]? = some (es.getD p (0, .none)) := by
          rw [Array.getElem?_eq_getElem (hl p (.head _)), Array.getD_eq_getD_getElem?, Array.getElem?_eq_getElem (hl p (.head _))]; rfl
        rw [List.filterMap_cons_some this, List.map_cons, ih fun q hq => hl q (.tail _ hq)]
    have e3 : (places.filterMap (es[·]?))[i]? = some es[places[i]] := by
      rw [efm _ hlt, List.getElem?_map, e1, Option.map_some, Array.getD_eq_getD_getElem?, e2]; rfl
    have hperm : (places.filterMap (es[·]?)).Perm es.toList := (hpl.filterMap _).trans (by rw [filterMap_getElem?_range])
    obtain ⟨tk, ev⟩ := keysOf_at (prog := prog) (w := w) (hel.perm hperm) e3
    refine nextTup_item st.1 st.2.1 rfl hT hcT hdT e1 e2 rfl fun h' hit' hs' => ?_
    exact hQ _ h' s.toks ⟨tk, _, by rw [keysOf, List.getElem?_map, e3]; rfl, ev⟩ ⟨hit', st.2.1.at fun o e => hs' a o hne e, oT, hs' T oT hTI hT, hcT, hdT⟩ fun b o hb e => hs' b o (fun q => hb (by simp [q])) e
  done := fun s Q E st hQ => by
    obtain ⟨oT, hT, hcT, hdT⟩ := st.2.2
    have hlen : places.length = es.size := by rw [hpl.length_eq, List.length_range]
    exact nextTup_end hh st.1 st.2.1 rfl hT hcT hdT (List.getElem?_eq_none (by rw [hlen]; exact Nat.le_refl _)) fun h' he' => hQ h' s.toks fun b o hb e => he' b o (fun q => hb (by simp [q])) e
  self := fun _ _ _ _ st hQ => iterSelf st.1 hQ

theorem Walks.setSmall (hh : A.handled = none) (hne : a ≠ I) (hb : byText w = false) (hel : ElemsOf (strKind prog w) es.toList) (hsm : es.size ≤ 1) :
    Walks prog w A I [I, a] [I] es.size (fun i v => ∃ tk, ∃ k, (keysOf es.toList)[i]? = some k ∧ v = .str k tk)
      (fun i h => IsSetIter h I (rawInt ((if i = 0 then 0 else t.place.getD 0 0 + 1 : Nat) : Int)) i a es.size ep ∧ SRaw prog w h a es ep t) where
  sub := fun b hb => by simp at hb; simp [hb]
  frame := fun _ _ _ st hk => ⟨st.1.at fun o e => hk I (by simp) o e, st.2.at fun o e => hk a (by simp) o e⟩
  item := fun i s Q E hi st hQ => by
    have hi0 : i = 0 := by omega
    subst hi0
    have hpz : t.place.size = 1 := by
      have := st.2.fits
      simp only [SetTable.fits, Bool.and_eq_true, beq_iff_eq] at this
      omega
    have e1 : es.toList[0]? = some es[0] := by simp [hi]
    obtain ⟨tk, ev⟩ := keysOf_at (prog := prog) (w := w) hel e1
    refine nextInt_item (slot := 0) (slot' := t.place.getD 0 0 + 1) (v := es[0].2) st.1 st.2 rfl (fun Q' E' hq => ?_) fun h' hit' hs' => ?_
    · unfold setNext
      refine wpAny_bind (st.2.state ?_)
      dsimp only
      refine wpAny_bind (asksText ?_)
      rw [hb, if_neg Bool.false_ne_true]
      show wpAny _ _ (if (!t.plain && decide (es.size > 1)) = true then _ else _) _ _ _
      rw [if_neg (by simp; omega)]
      refine wpAny_bind ?_
      wp_delta
      rw [if_neg (by rw [st.2.led, hb]; simp)]
      refine wpAny_pure ?_
      have hb0 : SetTable.below t.place 0 = 0 := by
        unfold SetTable.below
        rw [hpz]
        show (if 0 < 1 then if t.place.getD 0 0 < 0 then _ else SetTable.below.go t.place 0 0 0 0 else 0) = 0
        rw [if_pos (by decide), if_neg (Nat.not_lt_zero _)]; rfl
      have e2 : es[0]? = some es[0] := by simp [hi]
      have e3 : t.place[0]? = some (t.place.getD 0 0) := by
        rw [Array.getD_eq_getD_getElem?, Array.getElem?_eq_getElem (show 0 < t.place.size by omega)]; rfl
      refine wpAny_pure ?_
      rw [hb0, e2, e3]
      exact hq
    · exact hQ _ h' s.toks ⟨tk, _, by rw [keysOf, List.getElem?_map, e1]; rfl, ev⟩ ⟨hit', st.2.at fun o e => hs' a o hne e⟩ fun b o hb e => hs' b o (fun q => hb (by simp [q])) e
  done := fun s Q E st hQ => by
    refine nextInt_end (slot := if es.size = 0 then 0 else (t.place.getD 0 0 + 1 : Nat)) hh st.1 st.2 rfl (fun Q' E' hq => ?_) fun h' he' => hQ h' s.toks fun b o hb e => he' b o (fun q => hb (by simp [q])) e
    unfold setNext
    refine wpAny_bind (st.2.state ?_)
    dsimp only
    refine wpAny_bind (asksText ?_)
    rw [hb, if_neg Bool.false_ne_true]
    show wpAny _ _ (if (!t.plain && decide (es.size > 1)) = true then _ else _) _ _ _
    rw [if_neg (by simp; omega)]
    refine wpAny_bind ?_
    wp_delta
    rw [if_neg (by rw [st.2.led, hb]; simp)]
    refine wpAny_pure ?_
    refine wpAny_pure ?_
    by_cases h0 : es.size = 0
    · have e2 : ∀ k : Nat, es[k]? = none := fun k => Array.getElem?_eq_none (by omega)
      rw [e2]; exact hq
    · have h1 : es.size = 1 := by omega
      have hpz : t.place.size = 1 := by
        have := st.2.fits
        simp only [SetTable.fits, Bool.and_eq_true, beq_iff_eq] at this
        omega
      rw [if_neg h0]
      have hb1 : SetTable.below t.place (t.place.getD 0 0 + 1) = 1 := by
        unfold SetTable.below
        rw [hpz]
        show (if 0 < 1 then if t.place.getD 0 (t.place.getD 0 0 + 1) < t.place.getD 0 0 + 1 then SetTable.below.go t.place (t.place.getD 0 0 + 1) 0 1 1 else SetTable.below.go t.place (t.place.getD 0 0 + 1) 0 0 0 else 0) = 1
        have e4 : t.place.getD 0 (t.place.getD 0 0 + 1) = t.place.getD 0 0 := by
          rw [Array.getD_eq_getD_getElem?, Array.getD_eq_getD_getElem?, Array.getElem?_eq_getElem (show 0 < t.place.size by omega)]; rfl
        rw [if_pos (by decide), e4, if_pos (Nat.lt_succ_self _)]; rfl
      rw [hb1, Array.getElem?_eq_none (show es.size ≤ 1 by omega)]
      exact hq
  self := fun _ _ _ _ st hQ => iterSelf st.1 hQ
end
end Mine
namespace Mine
open PySem PySem.W PyProof.Rows PySem.Calls
section
variable {prog : Program} {w : World} {A : Around} {E : Value → Shared → Prop} {s : Shared} {h h' : Heap} {a I : Addr} {es : Array (Int × Value)} {ep : Nat} {t : SetTable} {xs : List Str}

/-- what an iterator over a set has to give -/
def SetWalk (prog : Program) (w : World) (s : Shared) (a : Addr) (xs : List Str) (Q : Value → Shared → Prop) : Prop :=
  ∀ I h' dr fp (n : Nat) (ord : List Str) (St : Nat → Heap → Prop), n = ord.length → (∀ b o, s.heap.get? b = some o → h'.get? b = some o) → s.heap.objs.size ≤ I → ord.Perm xs →
    (∀ A' : Around, A'.handled = none → Walks prog w A' I fp [I] n (fun i v => ∃ tk k, ord[i]? = some k ∧ v = .str k tk) St) → St 0 h' → (∀ b ∈ fp, b = a ∨ s.heap.objs.size ≤ b) → (∀ b ∈ fp, b < h'.objs.size) →
    Q (.ref I) { s with heap := h', drawn := dr }

theorem ssetIter {Q : Value → Shared → Prop} (x : SSet prog w s.heap a xs) (h : SetWalk prog w s a xs Q) : wpAny (model prog w) A (pyIter (.ref a)) Q E s := by
  obtain ⟨es, ep, t, x, hp, hnd⟩ := x
  obtain ⟨o, ho, hex, hd⟩ := id x.obj
  have hT : s.TypeIs (.ref a) "set" := ⟨o, ho, hex.1⟩
  have halt := Heap.lt_size ho
  refine wpAny_pyIter_slot hT F.slot_set_iter (wpAny_call_entry F.slot_set_iter hT entry_set_iter ?_ (F.args_set_iter_1 _))
  unfold Builtin.«frozenset.__iter__» Builtin.Frozenset.slot0 slotArgs
  simp only [List.isEmpty_nil, Bool.not_true, Bool.false_eq_true, ↓reduceIte, bind_assoc, List.length_nil, bne_self_eq_false]
  unfold Builtin.Frozenset.addrOf Builtin.Frozenset.sizeOf
  refine wpAny_bind (wpAny_pure ?_)
  try dsimp only
  refine wpAny_bind (wpAny_pure ?_)
  refine wpAny_bind (wpAny_bind (x.entries (wpAny_pure ?_)))
  refine wpAny_bind (x.drawn ?_)
  cases hb : byText w with
  | true =>
    simp only [Bool.not_true, Bool.false_and, Bool.false_eq_true, if_false]
    refine wpAny_bind (wpAny_pure ?_)
    refine wpAny_bind (x.epoch ?_)
    refine wpAny_bind (wpAny_newObj_type (wpAny_pure ⟨_, rfl, "set_iterator", _, ⟨_, Heap.get?_push_size _ rfl, rfl⟩, slot_seti_next.lookup, ?_⟩))
    have hper := (keysOf_perm (pick_perm (w.params.setOrder a ep) es)).trans hp
    have hsz : (keysOf (pickOrder (w.params.setOrder a ep) es).toList).length = es.size := by rw [hper.length_eq, ← SRaw.size hp]
    refine h s.heap.objs.size _ s.drawn [s.heap.objs.size, a] _ _ _ hsz.symm (fun b o e => Heap.get?_push_of_some _ e) (Nat.le_refl _) hper (fun A' hA => Walks.setText hA (Nat.ne_of_lt halt) hb x.el)
      ⟨⟨_, Heap.get?_push_size _ rfl, rfl, rfl⟩, x.at fun o e => Heap.get?_push_of_some _ e⟩ ?_ ?_
    · intro b hb
      rcases List.mem_cons.mp hb with q | q
      · exact .inr (Nat.le_of_eq q.symm)
      · exact .inl (List.mem_singleton.mp q)
    · intro b hb
      show b < (s.heap.push _).objs.size
      rw [Heap.size_push]
      rcases List.mem_cons.mp hb with q | q
      · rw [q]; exact Nat.lt_succ_self _
      · rw [List.mem_singleton.mp q]; exact Nat.lt_succ_of_lt halt
  | false =>
    simp only [Bool.not_false, Bool.true_and]
    by_cases hdr : (!t.plain && decide (es.size > 1)) = true
    · rw [if_pos hdr]
      refine wpAny_bind (drawnOrder _ _ _ _ List.length_range.symm fun places dr hpl => wpAny_bind ?_)
      refine wpAny_newTuple ?_ (by rw [List.length_map, hpl.length_eq, List.length_range]; exact Nat.le_trans x.few (by decide))
      dsimp only
      refine wpAny_bind (SRaw.epoch (s := { s with heap := _, drawn := dr }) (x.at fun o e => Heap.get?_push_of_some _ e) ?_)
      refine wpAny_bind (wpAny_newObj_type (wpAny_pure ⟨_, rfl, "set_iterator", _, ⟨_, Heap.get?_push_size _ rfl, rfl⟩, slot_seti_next.lookup, ?_⟩))
      have hper0 : (places.filterMap (es[·]?)).Perm es.toList := (hpl.filterMap _).trans (by rw [filterMap_getElem?_range])
      have hper := (keysOf_perm hper0).trans hp
      have hsz : (keysOf (places.filterMap (es[·]?))).length = es.size := by rw [hper.length_eq, ← SRaw.size hp]
      have hs1 : ∀ o : Obj, (s.heap.push o).objs.size = s.heap.objs.size + 1 := fun o => Heap.size_push _ _
      refine h (s.heap.push _).objs.size _ dr [(s.heap.push _).objs.size, a, s.heap.objs.size] _ _ _ hsz.symm (fun b o e => Heap.get?_push_of_some _ (Heap.get?_push_of_some _ e)) (by rw [hs1]; exact Nat.le_succ _) hper
        (fun A' hA => Walks.setDrawn hA (by rw [hs1]; exact Nat.ne_of_lt (Nat.lt_succ_of_lt halt)) (by rw [hs1]; exact Nat.ne_of_lt (Nat.lt_succ_self _)) x.el hpl)
        ⟨⟨_, Heap.get?_push_size _ rfl, rfl, rfl⟩, x.at fun o e => Heap.get?_push_of_some _ (Heap.get?_push_of_some _ e), _, Heap.get?_push_of_some _ (Heap.get?_push_size _ rfl), rfl, rfl⟩ ?_ ?_
      · intro b hb
        rcases List.mem_cons.mp hb with q | q
        · rw [q, hs1]; exact .inr (Nat.le_succ _)
        · rcases List.mem_cons.mp q with q | q
          · exact .inl q
          · exact .inr (Nat.le_of_eq (List.mem_singleton.mp q).symm)
      · intro b hb
        show b < ((s.heap.push _).push _).objs.size
        rw [Heap.size_push]
        rcases List.mem_cons.mp hb with q | q
        · rw [q]; exact Nat.lt_succ_self _
        · rw [hs1]
          rcases List.mem_cons.mp q with q | q
          · rw [q]; exact Nat.lt_succ_of_lt (Nat.lt_succ_of_lt halt)
          · rw [List.mem_singleton.mp q]; exact Nat.lt_succ_of_lt (Nat.lt_succ_self _)
    · rw [if_neg hdr]
      have hsm : es.size ≤ 1 := by
        by_cases hz : es.size = 0
        · omega
        · rw [x.plain hz] at hdr; simp at hdr; omega
      refine wpAny_bind (wpAny_pure ?_)
      refine wpAny_bind (x.epoch ?_)
      refine wpAny_bind (wpAny_newObj_type (wpAny_pure ⟨_, rfl, "set_iterator", _, ⟨_, Heap.get?_push_size _ rfl, rfl⟩, slot_seti_next.lookup, ?_⟩))
      have hsz : (keysOf es.toList).length = es.size := by rw [hp.length_eq, ← SRaw.size hp]
      refine h s.heap.objs.size _ s.drawn [s.heap.objs.size, a] _ _ _ hsz.symm (fun b o e => Heap.get?_push_of_some _ e) (Nat.le_refl _) hp (fun A' hA => Walks.setSmall hA (Nat.ne_of_lt halt) hb x.el hsm)
        ⟨⟨_, Heap.get?_push_size _ rfl, rfl, rfl⟩, x.at fun o e => Heap.get?_push_of_some _ e⟩ ?_ ?_
      · intro b hb
        rcases List.mem_cons.mp hb with q | q
        · exact .inr (Nat.le_of_eq q.symm)
        · exact .inl (List.mem_singleton.mp q)
      · intro b hb
        show b < (s.heap.push _).objs.size
        rw [Heap.size_push]
        rcases List.mem_cons.mp hb with q | q
        · rw [q]; exact Nat.lt_succ_self _
        · rw [List.mem_singleton.mp q]; exact Nat.lt_succ_of_lt halt
end
end Mine
namespace Mine
open PySem PySem.W PyProof.Rows PySem.Calls
section
variable {prog : Program} {w : World} {A : Around} {E : Value → Shared → Prop} {s : Shared} {h h' : Heap} {a I : Addr} {es : Array (Int × Value)} {ep : Nat} {t : SetTable} {xs : List Str}

theorem newClassSet {x : Value} {Q : Value × List Value → Shared → Prop} (h : Q (.type "set", [x]) s) : wpAny (model prog w) A (Builtin.Frozenset.newClass "set" ⟨[.type "set", x], []⟩) Q E s := by
  unfold Builtin.Frozenset.newClass
  have hsub := sub_set_self
  obtain ⟨hp, g, d, tk, os⟩ := s
  dsimp only
  wp_walk
  exact h

theorem setNewCode {x : Value} {Q₁ : Value → Shared → Prop}
    (h : ∀ a h', a = s.heap.objs.size → (∀ b o, s.heap.get? b = some o → h'.get? b = some o) → h'.objs.size = a + 1 → SRaw prog w h' a #[] 0 (.fresh 0 0 (!byText w)) → Q₁ (.ref a) { s with heap := h' }) :
    codeAny (model prog w) A (.call (.builtin "set.__new__") ⟨[.type "set", x], []⟩) (wants Q₁ E) s := by
  refine codeAny_of_tree ?_
  show wpAny _ A.in1 (do checkBuiltinCall "set.__new__" ⟨[.type "set", x], []⟩; again (.builtin "set.__new__" ⟨[.type "set", x], []⟩)) _ _ s
  refine wpAny_bind (wpAny_of_eq (PySem.F.newCall_set_1 x) (wpAny_pure ⟨plainId_quiet PySem.F.plain_set_new _, codeAny_builtin PySem.F.entry_set_new ?_⟩))
  rw [Around.under_plainId PySem.F.plain_set_new _]
  unfold Builtin.«set.__new__»
  refine wpAny_bind (newClassSet ?_)
  refine wpAny_bind (ssetNew fun a h' e k z x => wpAny_pure (h a h' e k z x))

theorem SRaw.used {Q : Bool → Shared → Prop} (x : SRaw prog w s.heap a es ep t) (h : Q (t.fill != 0) s) : wpAny (model prog w) A (setUsed a) Q E s := by
  unfold setUsed; exact wpAny_bind (x.state (wpAny_pure h))

theorem callSet {x : Value} {Q : Value → Shared → Prop}
    (init : ∀ S h1, S = s.heap.objs.size → (∀ b o, s.heap.get? b = some o → h1.get? b = some o) → h1.objs.size = S + 1 → SRaw prog w h1 S #[] 0 (.fresh 0 0 (!byText w)) →
      wpAny (model prog w) A.in1.in1 (Builtin.Frozenset.updateFrom "set.__init__" S x) (fun _ s' => Q (.ref S) s') No { s with heap := h1 }) :
    wpAny (model prog w) A (call (.type "set") [x]) Q No s := by
  obtain ⟨c, tl, hmro⟩ := PySem.F.called_set.mro
  have hmade := PySem.F.called_set.made
  have hsub := PySem.F.called_set.sub
  refine wpAny_call (codeAny_of_tree ?_)
  show wpAny _ _ (callAny (.type "set") _) _ _ _
  refine wpAny_pure ⟨Code.quiet_builtin _ (by decide +kernel), codeAny_builtin PySem.F.entry_type_call ?_⟩
  rw [Around.under_plain (weight_type_call_type "set" [x] []) rfl]
  have h1 := PySem.F.called_set.notType
  have h2 := PySem.F.called_set.canCreate
  have hct := PySem.F.typeCall_set_1 x
  repeat (any_goals (first | assumption | wp_step))
  refine codeAny_mono (setNewCode (E := No) (x := x) (Q₁ := fun obj s₁ => ∃ S hh1, obj = .ref S ∧ s₁ = { s with heap := hh1 } ∧ S = s.heap.objs.size ∧ (∀ b o, s.heap.get? b = some o → hh1.get? b = some o) ∧ hh1.objs.size = S + 1 ∧ SRaw prog w hh1 S #[] 0 (.fresh 0 0 (!byText w)))
    fun S hh1 e k z y => ⟨S, hh1, rfl, rfl, e, k, z, y⟩) fun r s₁ hr => ?_
  cases r with
  | error e => exact hr
  | ok fl =>
    cases fl with
    | ret obj =>
      obtain ⟨S, hh1, rfl, rfl, e, k, z, y⟩ := hr
      obtain ⟨oS, hoS, hexS, hdS⟩ := id y.obj
      have hT : Shared.TypeIs { s with heap := hh1 } (.ref S) "set" := ⟨oS, hoS, hexS.1⟩
      have hli := PySem.F.called_set.init.lookup
      have hbi := PySem.F.called_set.init.bind (.ref S)
      repeat (any_goals (first | assumption | wp_step))
      refine codeAny_mono (codeAny_call_builtin (R := wants (fun r s₂ => r = .none ∧ Q (.ref S) s₂) No) PySem.F.called_set.init.plain PySem.F.entry_set_init (check_set_init_1 hT ?_)) fun r₂ s₂ hr₂ => ?_
      · unfold Builtin.«set.__init__» noKeywords
        obtain ⟨ocls, odict, odata, oslots⟩ := oS
        obtain ⟨q1, q2, q3⟩ := hexS
        simp only at q1 q2 q3 hdS
        subst q1 q2 q3 hdS
        generalize hU : Builtin.Frozenset.updateFrom = U
        generalize hW : setUsed = W
        wp_walk
        subst hU
        subst hW
        refine SRaw.used (s := { s with heap := hh1 }) y ?_
        rw [show ((SetTable.fresh 0 0 !byText w).fill != 0) = false from rfl]
        dsimp only
        rw [if_neg Bool.false_ne_true]
        refine wpAny_bind (wpAny_mono (init S hh1 e k z y) (fun _ s' hq => wpAny_pure ⟨rfl, hq⟩) fun _ _ f => f.elim)
      · cases r₂ with
        | error e => exact hr₂
        | ok fl₂ =>
          cases fl₂ with
          | ret r =>
            obtain ⟨rfl, hq⟩ := hr₂
            repeat (any_goals (first | assumption | wp_step))
          | _ => exact hr₂.elim
    | _ => exact hr.elim
end
end Mine
namespace Mine
open PySem PySem.W PyProof.Rows PySem.Calls
section
variable {prog : Program} {w : World} {A : Around} {E : Value → Shared → Prop} {s : Shared} {h h' : Heap} {a I : Addr} {es : Array (Int × Value)} {ep : Nat} {t : SetTable} {xs : List Str}

theorem sub_gen_set : isSubtype (.type "generator") (.type "set") = pure false := by rw [isSubtype_type]; kernel_rfl
theorem sub_gen_frozenset : isSubtype (.type "generator") (.type "frozenset") = pure false := by rw [isSubtype_type]; kernel_rfl
theorem sub_keys_set : isSubtype (.type "dict_keys") (.type "set") = pure false := by rw [isSubtype_type]; kernel_rfl
theorem sub_keys_frozenset : isSubtype (.type "dict_keys") (.type "frozenset") = pure false := by rw [isSubtype_type]; kernel_rfl

theorem anySet_yes {v : Value} {Q : Bool → Shared → Prop} (hT : s.TypeIs v "set") (h : Q true s) : wpAny (model prog w) A (Builtin.Frozenset.isAnySet v) Q E s := by
  unfold Builtin.Frozenset.isAnySet
  refine wpAny_bind (wpAny_isInstance hT sub_set_self ?_)
  exact wpAny_pure h
theorem anySet_no {v : Value} {T : String} {Q : Bool → Shared → Prop} (hT : s.TypeIs v T) (h1 : isSubtype (.type T) (.type "set") = pure false) (h2 : isSubtype (.type T) (.type "frozenset") = pure false) (h : Q false s) : wpAny (model prog w) A (Builtin.Frozenset.isAnySet v) Q E s := by
  unfold Builtin.Frozenset.isAnySet
  refine wpAny_bind (wpAny_isInstance hT h1 ?_)
  exact wpAny_isInstance hT h2 h

theorem foldAdd_nodup : ∀ {ks ys : List Str}, ys.Nodup → (ks.foldl addTo ys).Nodup
  | [], _, h => h
  | k :: r, _, h => foldAdd_nodup (ks := r) (addTo_nodup h)
theorem addTo_len (ys : List Str) (k : Str) : (addTo ys k).length ≤ ys.length + 1 := by
  unfold addTo; split
  · exact Nat.le_succ _
  · rw [List.length_append]; exact Nat.le_refl _
theorem foldAdd_len : ∀ (ks ys : List Str), (ks.foldl addTo ys).length ≤ ys.length + ks.length
  | [], _ => Nat.le_refl _
  | k :: r, ys => by
    have h1 := foldAdd_len r (addTo ys k)
    have h2 := addTo_len ys k
    rw [List.foldl_cons, List.length_cons]; omega
theorem foldAdd_mem {x : Str} : ∀ {ks ys : List Str}, x ∈ ks.foldl addTo ys ↔ x ∈ ys ∨ x ∈ ks
  | [], _ => by simp
  | k :: r, ys => by
    rw [List.foldl_cons, foldAdd_mem (ks := r)]
    have : x ∈ addTo ys k ↔ x ∈ ys ∨ x = k := by
      unfold addTo; split
      · rename_i hk
        constructor
        · exact .inl
        · rintro (q | rfl)
          · exact q
          · exact hk
      · simp
    rw [this, List.mem_cons, or_assoc]

variable {R : Result → Shared → Prop} {fp wr : List Addr} {G : Array GenState → Array GenState → Prop} {n : Nat} {P : Nat → Value → Prop} {St : Nat → Shared → Prop}

theorem updateLoop (W : WalksS prog w A.in1 I fp wr G n P St) (S : Addr) (hSf : S ∉ fp) (ord : List Str) (hord : ∀ i v, P i v → ∃ tk k, ord[i]? = some k ∧ v = .str k tk) (hn : ord.length = n) :
    ∀ (k i : Nat) (s : Shared) (ys : List Str), n - i = k → i ≤ n → St i s → SSet prog w s.heap S ys → ys.length + (n - i) ≤ 900 →
      (∀ s', Moved (S :: wr) G s s' → SSet prog w s'.heap S ((ord.drop i).foldl addTo ys) → R (.ok (.ret .none)) s') →
      codeAny (model prog w) A (.builtin "set.update.loop" ⟨[.ref S, .ref I], []⟩) R s := by
  have hSw : S ∉ wr := fun h => hSf (W.sub _ h)
  have hsub : ∀ b ∈ wr, b ∈ S :: wr := fun b hb => List.mem_cons_of_mem _ hb
  intro k
  induction k with
  | zero =>
    intro i s ys hk hi hst hS _ hR
    have hin : i = n := by omega
    subst hin
    refine codeAny_builtin PyProof.Rows.F.entry_set_update_loop ?_
    rw [Around.under_plainId PyProof.Rows.F.plain_set_update_loop _]
    show wpAny _ A.in1 (pyNext (.ref I) >>= _) _ _ s
    refine wpAny_bind (W.done s _ _ hst fun s' hm => ?_)
    show wpAny _ A.in1 (ret Value.none) _ _ s'
    refine wpAny_pure (hR s' (hm.mono hsub) ?_)
    rw [List.drop_of_length_le (Nat.le_of_eq hn)]
    exact hS.at fun o e => hm.heap S o hSw e
  | succ k ih =>
    intro i s ys hk hi hst hS hb hR
    have hlt : i < n := by omega
    refine codeAny_builtin PyProof.Rows.F.entry_set_update_loop ?_
    rw [Around.under_plainId PyProof.Rows.F.plain_set_update_loop _]
    show wpAny _ A.in1 (pyNext (.ref I) >>= _) _ _ s
    refine wpAny_bind (W.item i s _ _ hlt hst fun v s' hP hst' hm => ?_)
    obtain ⟨tk, key, ek, rfl⟩ := hord i v hP
    show wpAny _ A.in1 (holding [Value.str key tk] (setAdd S (.str key tk)) >>= _) _ _ s'
    refine wpAny_bind (wpAny_holding ?_)
    refine wpAny_with_toks (Nat.le_refl s'.toks) ?_
    refine ssetAdd (hS.at fun o e => hm.heap S o hSw e) (by omega) fun b h' tok hsb hS2 htok => ?_
    have hlen := addTo_len ys key
    refine wpAny_pure ⟨plainId_quiet PyProof.Rows.F.plain_set_update_loop _, ih (i + 1) _ (addTo ys key) (by omega) hlt (W.frame _ s' _ _ hst' htok fun b hb o e => ?_) hS2 (by omega) fun s'' hm'' hS'' => ?_⟩
    · rw [hsb.2 b (fun h : b = S => hSf (by rw [← h]; exact hb))]; exact e
    · have ed : ord.drop i = key :: ord.drop (i + 1) := by
        have hi' : i < ord.length := by omega
        rw [List.drop_eq_getElem_cons hi']
        rw [List.getElem?_eq_getElem hi', Option.some.injEq] at ek
        rw [ek]
      refine hR s'' (Moved.trans W.gtrans ((hm.mono hsub).then_heap htok fun b o hb e => ?_) hm'') (by rw [ed, List.foldl_cons]; exact hS'')
      rw [hsb.2 b (fun h : b = S => hb (by rw [h]; exact List.mem_cons_self))]; exact e
end
end Mine
namespace Mine
open PySem PySem.W PyProof.Rows PySem.Calls
section
variable {prog : Program} {w : World} {A : Around} {E : Value → Shared → Prop} {s : Shared} {h h' : Heap} {a I : Addr} {es : Array (Int × Value)} {ep : Nat} {t : SetTable} {xs : List Str}

theorem nodup_foldAdd {ys : List Str} : ∀ {ks : List Str}, (ys ++ ks).Nodup → ks.foldl addTo ys = ys ++ ks
  | [], _ => by simp
  | k :: r, h => by
    have hk : k ∉ ys := fun q => (List.nodup_append.mp h).2.2 k q k (.head _) rfl
    rw [List.foldl_cons, addTo, if_neg hk, nodup_foldAdd (by rw [List.append_assoc]; exact h), List.append_assoc]; rfl

/-- filling from an iterator over strings that keeps the generators still -/
theorem fillFrom {id : String} {S : Addr} {v : Value} {T : String} {Q : Shared → Prop} {ys : List Str} (hT : s.TypeIs v T) (h1 : isSubtype (.type T) (.type "set") = pure false) (h2 : isSubtype (.type T) (.type "frozenset") = pure false) (hd : (Value.type T == Value.type "dict") = false)
    (hit : wpAny (model prog w) A (pyIter v) (fun it s₁ => ∃ I fp wr G n P St, ∃ ord : List Str, it = .ref I ∧ WalksS prog w A.in1 I fp wr G n P St ∧ S ∉ fp ∧ (∀ i v, P i v → ∃ tk k, ord[i]? = some k ∧ v = .str k tk) ∧ ord.length = n ∧ n + ys.length ≤ 900 ∧ St 0 s₁ ∧ SSet prog w s₁.heap S ys ∧
      ∀ s', Moved (S :: wr) G s₁ s' → SSet prog w s'.heap S (ord.foldl addTo ys) → Q s') No s) :
    wpAny (model prog w) A (Builtin.Frozenset.updateFrom id S v) (fun _ s' => Q s') No s := by
  unfold Builtin.Frozenset.updateFrom
  refine wpAny_bind (anySet_no hT h1 h2 ?_)
  rw [if_neg Bool.false_ne_true]
  refine wpAny_bind (wpAny_typeOf hT ?_)
  rw [hd, if_neg Bool.false_ne_true]
  refine wpAny_bind (wpAny_mono hit (fun it s₁ hh => ?_) fun _ _ f => f)
  obtain ⟨I, fp, wr, G, n, P, St, ord, rfl, W, hSf, hord, hn, hb, hst, hS, hQ⟩ := hh
  refine wpAny_bind (wpAny_runValue ?_)
  refine updateLoop W S hSf ord hord hn (n - 0) 0 s₁ ys rfl (Nat.zero_le _) hst hS (by omega) fun s' hm hS' => ?_
  exact wpAny_pure (hQ s' hm (by simpa using hS'))

theorem setOfList {l : Addr} {Q : Value → Shared → Prop} (hh : A.handled = none) (hl : LStr s.heap l xs) (hn : xs.length ≤ 100) (hnd : xs.Nodup)
    (hQ : ∀ S h' tk, S = s.heap.objs.size → (∀ b o, s.heap.get? b = some o → h'.get? b = some o) → SSet prog w h' S xs → Q (.ref S) { s with heap := h', toks := tk }) :
    wpAny (model prog w) A (call (.type "set") [.ref l]) Q No s := by
  obtain ⟨vs, hvs, hsa⟩ := hl
  refine callSet fun S h1 eS k1 z1 x1 => ?_
  have hl1 : h1.IsList l vs.toArray := (hvs.at fun o e => k1 _ o e).isList
  have hlS : l ≠ S := fun q => by obtain ⟨_, y⟩ := hvs; have := Heap.lt_size y; rw [q, eS] at this; exact Nat.lt_irrefl _ this
  refine fillFrom (T := "list") (ys := []) (s := { s with heap := h1 }) hl1.typeIs PySem.F.sub_list_set PySem.F.sub_list_frozenset (by decide) (iterList (A := A.in1.in1) (s := { s with heap := h1 }) hh hl1 fun I h2 eI k2 hlI W st0 hfp => ?_)
  have hSI : S ≠ I := fun q => by rw [← q, z1] at eI; exact absurd eI (Nat.ne_of_lt (Nat.lt_succ_self _))
  have W' := Walks.list (prog := prog) (w := w) (A := A.in1.in1.in1) hh I l hlI vs.toArray
  refine ⟨I, _, _, _, _, _, _, xs, rfl, W'.toS, ?_, ?_, ?_, ?_, st0, x1.empty.at fun o e => k2 _ o e, fun s' hm hS => ?_⟩
  · intro hm
    rcases List.mem_cons.mp hm with q | q
    · exact hSI q
    · exact hlS (List.mem_singleton.mp q).symm
  · intro i v hv
    obtain ⟨x, tk, e1, e2⟩ := strsAre_at hsa i v (by simpa using hv)
    exact ⟨tk, x, e2, e1⟩
  · rw [List.size_toArray, strsAre_length hsa]
  · rw [List.size_toArray, strsAre_length hsa]; simp; omega
  · rw [nodup_foldAdd (by simpa using hnd), List.nil_append] at hS
    have := hQ S s'.heap s'.toks eS (fun b o e => ?_) hS
    · rw [Moved.eq_with hm]; exact this
    · have hb1 : b ≠ S := fun q => by have := Heap.lt_size e; rw [q, eS] at this; exact Nat.lt_irrefl _ this
      have hb2 : b ≠ I := fun q => by have := Heap.lt_size (k1 b o e); rw [q, eI] at this; exact Nat.lt_irrefl _ this
      exact hm.heap b o (by simp [hb1, hb2]) (k2 b o (k1 b o e))

theorem setOfSet {o : Addr} {Q : Value → Shared → Prop} (hs : SSet prog w s.heap o xs) (hn : xs.length ≤ 7)
    (hQ : ∀ S h', S = s.heap.objs.size → (∀ b o, s.heap.get? b = some o → h'.get? b = some o) → SSet prog w h' S xs → Q (.ref S) { s with heap := h' }) :
    wpAny (model prog w) A (call (.type "set") [.ref o]) Q No s := by
  refine callSet fun S h1 eS k1 z1 x1 => ?_
  obtain ⟨eo, epo, to, y, hp, hd⟩ := hs
  have y1 : SRaw prog w h1 o eo epo to := y.at fun ob e => k1 _ ob e
  obtain ⟨oo, hoo, hexo, hdo⟩ := y1.obj
  have hlt : o < s.heap.objs.size := let ⟨_, ho, _⟩ := y.obj; Heap.lt_size ho
  have hne : S ≠ o := fun q => by rw [← q, eS] at hlt; exact Nat.lt_irrefl _ hlt
  unfold Builtin.Frozenset.updateFrom
  refine wpAny_bind (anySet_yes (s := { s with heap := h1 }) ⟨oo, hoo, hexo.1⟩ ?_)
  rw [if_pos rfl]
  refine wpAny_bind (wpAny_pure ?_)
  unfold Builtin.Frozenset.merge
  refine wpAny_bind (SRaw.epoch (s := { s with heap := h1 }) y1 ?_)
  refine rawMerge (s := { s with heap := h1 }) x1 y1 hne (by rw [SRaw.size hp]; exact hn) fun h2 es' ep' t' hs2 x2 hp2 => ?_
  refine hQ S h2 eS (fun b ob e => ?_) ⟨es', ep', t', x2, (keysOf_perm hp2).trans hp, hd⟩
  exact (hs2.2 b (fun q => by have := Heap.lt_size e; rw [q, eS] at this; exact Nat.lt_irrefl _ this)).trans (k1 b ob e)

theorem noBool_set : typeLookup (.type "set") "__bool__" = pure none := by rw [typeLookup_type, builtinLookup_eq_fast]; kernel_rfl

theorem truthySet {Q : Bool → Shared → Prop} (hs : SSet prog w s.heap a xs) (hn : xs.length ≤ 100)
    (h : ∀ tk, Q (!xs.isEmpty) { s with toks := tk }) : wpAny (model prog w) A (truthy (.ref a)) Q E s := by
  obtain ⟨es, ep, t, x, hp, hd⟩ := id hs
  obtain ⟨o, ho, hex, hdt⟩ := x.obj
  have hsz := SRaw.size hp
  have hne : ((es.size : Int) != 0) = !xs.isEmpty := by rw [hsz]; cases xs <;> simp <;> omega
  have key : wpAny (model prog w) A (runValue (.builtin "len" ⟨[.ref a], []⟩)) (fun r s' => r = .int es.size (s.toks + 1) ∧ Q (!xs.isEmpty) s') E s := by
    refine wpAny_runValue (codeAny_builtin entry_len ?_)
    rw [Around.under_plainId plain_len _]
    exact wpAny_mono (wpAny_len_body_set (Q := fun r s' => r = .int es.size (s.toks + 1) ∧ Q (!xs.isEmpty) s') ho hex hdt x.fits (by omega) ⟨rfl, h _⟩)
      (fun fin s' h' => by obtain ⟨r, rfl, hq⟩ := h'; exact hq) fun _ _ e => e
  unfold truthy
  refine wpAny_bind (wpAny_callSpecial?_none (name := Str.ofString "__bool__") hs.typeIs noBool_set ?_)
  refine wpAny_bind (wpAny_specialOf (name := Str.ofString "__len__") hs.typeIs PySem.F.slot_set_len.lookup ?_)
  exact wpAny_bind (wpAny_mono key (fun r s' h' => by obtain ⟨rfl, hq⟩ := h'; exact wpAny_pure (hne ▸ hq)) fun _ _ e => e)
end
end Mine
namespace Mine
open PySem PySem.W PyProof.Rows PySem.Calls
section
variable {prog : Program} {w : World} {A : Around} {E : Value → Shared → Prop} {s : Shared} {h h' : Heap} {a I : Addr} {es : Array (Int × Value)} {ep : Nat} {t : SetTable} {xs : List Str}

theorem fills_set_sub : fillsNumberSlot (.type "set") "sub" = pure true :=
  fillsNumberSlot_of (id := "set.__sub__") (r := some (.builtin "set.__rsub__")) PySem.F.slot_set_sub.lookup (by decide +kernel) PySem.F.slot_set_rsub.lookup

theorem quietSets {sets : List Addr} {Q : Bool → Shared → Prop} (hs : ∀ b ∈ sets, ∃ es ep t, SRaw prog w s.heap b es ep t) (h : Q true s) : wpAny (model prog w) A (setsQuiet sets) Q E s := by
  unfold setsQuiet
  refine wpAny_bind (wpAny_forIn_list _ (fun l b s' => s' = s ∧ b = (none, ()) ∧ ∀ x ∈ l, x ∈ sets) _ ?_ ?_ sets (none, ()) ⟨rfl, rfl, fun _ h => h⟩)
  · rintro x rest b s' ⟨rfl, rfl, hl⟩
    obtain ⟨es, ep, t, y⟩ := hs x (hl x (.head _))
    refine wpAny_bind (y.entries ?_)
    refine wpAny_bind (wpAny_forIn_array' _ (fun l b s'' => s'' = s' ∧ b = (none, ()) ∧ ∀ e ∈ l, e ∈ es.toList) _ ?_ ?_ es (none, ()) ⟨rfl, rfl, fun _ h => h⟩)
    · rintro e rest' b s'' ⟨rfl, rfl, hl'⟩
      obtain ⟨k, tk, rfl, _⟩ := elem_str (y.el e (hl' e (.head _))).1
      exact wpAny_pure ⟨rfl, rfl, fun e he => hl' e (.tail _ he)⟩
    · rintro b s'' ⟨rfl, rfl, _⟩
      exact wpAny_pure ⟨rfl, rfl, fun x hx => hl x (.tail _ hx)⟩
  · rintro b s' ⟨rfl, rfl, _⟩
    exact wpAny_pure h

theorem walkUnseen {r : Addr} {others : List Addr} {er : Array (Int × Value)} {epr : Nat} {tr : SetTable} {Q : Array (Int × Value) → Shared → Prop} (x : SRaw prog w s.heap a es ep t) (y : SRaw prog w s.heap r er epr tr)
    (hs : ∀ b ∈ others, ∃ es ep t, SRaw prog w s.heap b es ep t)
    (h : ∀ es' h' dr epr' tr', es'.toList.Perm es.toList → Heap.SameBut r s.heap h' → SRaw prog w h' r er epr' tr' → Q es' { s with heap := h', drawn := dr }) :
    wpAny (model prog w) A (setWalkUnseen a others (some r)) Q E s := by
  have old : ∀ es' dr, es'.toList.Perm es.toList → Q es' { s with drawn := dr } := fun es' dr hp => h es' s.heap dr epr tr hp (Heap.SameBut.refl r s.heap) y
  unfold setWalkUnseen
  refine wpAny_bind (x.state ?_)
  dsimp only
  refine wpAny_bind (asksText ?_)
  refine wpAny_ite_split (fun _ => x.walk fun es' dr hp => old es' dr hp) (fun _ => ?_)
  refine wpAny_bind (quietSets (fun b hb => ?_) ?_)
  · rcases List.mem_cons.mp hb with q | q
    · exact ⟨es, ep, t, q ▸ x⟩
    · exact hs b q
  rw [if_neg (by simp)]
  refine wpAny_bind (wpAny_rule ?_)
  refine wpAny_bind (y.state ?_)
  dsimp only
  refine wpAny_ite_split (fun _ => ?_) (fun _ => ?_)
  · refine wpAny_bind (y.store (t' := { tr with led := tr.led && t.led, plain := tr.plain && t.plain }) y.el y.few y.fits (by show (tr.led && t.led) = tr.led; rw [y.led, x.led, Bool.and_self]) (fun hz => by show (tr.plain && t.plain) = false; rw [y.plain hz, Bool.false_and]) fun h1 hs1 y1 => wpAny_pure ?_)
    exact h es h1 s.drawn _ _ .rfl hs1 y1
  · exact wpAny_pure (old es s.drawn .rfl)

theorem unchangedOk {nid : String} {Q : Unit → Shared → Prop} (x : SRaw prog w s.heap a es ep t) (h : Q () s) : wpAny (model prog w) A (Builtin.Frozenset.unchanged nid a ep) Q E s := by
  unfold Builtin.Frozenset.unchanged
  refine wpAny_bind (x.epoch ?_)
  rw [if_neg (by simp)]
  exact wpAny_pure h

theorem baseSet {Q : Value → Shared → Prop} (hT : s.TypeIs (.ref a) "set") (h : Q (.type "set") s) : wpAny (model prog w) A (Builtin.Frozenset.baseOf a) Q E s := by
  unfold Builtin.Frozenset.baseOf
  exact wpAny_bind (wpAny_isInstance hT sub_set_self (wpAny_pure h))

theorem ssetDifference {b : Addr} {ys : List Str} {nid : String} {Q : Value → Shared → Prop} (hx : SSet prog w s.heap a xs) (hy : SSet prog w s.heap b ys) (hxl : xs.length ≤ 7) (hyn : ys ≠ [])
    (hQ : ∀ r h' dr, r = s.heap.objs.size → (∀ b o, s.heap.get? b = some o → h'.get? b = some o) → SSet prog w h' r (xs.filter fun k => !decide (k ∈ ys)) → Q (.ref r) { s with heap := h', drawn := dr }) :
    wpAny (model prog w) A (Builtin.Frozenset.difference nid a (.ref b)) Q E s := by
  obtain ⟨ea, epa, ta, x, hpx, hdx⟩ := id hx
  obtain ⟨eb, epb, tb, y, hpy, hdy⟩ := id hy
  have hla := SRaw.size hpx
  have hlb := SRaw.size hpy
  have hpos : 0 < ys.length := List.length_pos_iff.mpr hyn
  unfold Builtin.Frozenset.difference
  refine wpAny_bind (anySet_yes hy.typeIs ?_)
  rw [if_neg (by simp)]
  refine wpAny_bind (wpAny_pure ?_)
  rw [if_neg (by simp)]
  unfold Builtin.Frozenset.sizeOf
  rw [if_pos rfl]
  refine wpAny_bind (wpAny_bind (y.entries (wpAny_pure ?_)))
  refine wpAny_bind (wpAny_bind (x.entries (wpAny_pure ?_)))
  rw [if_neg (by omega)]
  refine wpAny_bind (baseSet hx.typeIs ?_)
  refine wpAny_bind (ssetNew fun r h1 er k1 z1 xr => ?_)
  refine wpAny_bind (wpAny_pure ?_)
  have x1 : SRaw prog w h1 a ea epa ta := x.at fun o e => k1 _ o e
  have y1 : SRaw prog w h1 b eb epb tb := y.at fun o e => k1 _ o e
  have hra : a ≠ r := Nat.ne_of_lt (er ▸ hx.lt)
  have hrb : b ≠ r := Nat.ne_of_lt (er ▸ hy.lt)
  refine wpAny_bind (SRaw.epoch (s := { s with heap := h1 }) x1 ?_)
  refine wpAny_bind (wpAny_holding ?_)
  rw [if_pos rfl]
  refine wpAny_bind (walkUnseen (s := { s with heap := h1 }) x1 xr (fun c hc => ?_) fun es' h2 dr epr' tr' hpe hs2 xr2 => ?_)
  · rcases List.mem_cons.mp hc with q | q
    · exact ⟨_, _, _, q ▸ y1⟩
    · exact ⟨_, _, _, (List.mem_singleton.mp q) ▸ xr⟩
  have hke : (keysOf es'.toList).Perm xs := (keysOf_perm hpe).trans hpx
  have hkn : (keysOf es'.toList).Nodup := hke.nodup_iff.mpr hdx
  have hel : ElemsOf (strKind prog w) es'.toList := x.el.perm hpe
  refine wpAny_bind (wpAny_forIn_array' _ (fun l _ s' => ∃ hh done, s' = { s with heap := hh, drawn := dr } ∧ done ++ l = es'.toList ∧ (∀ c o, c ≠ r → h1.get? c = some o → hh.get? c = some o) ∧ SSet prog w hh r ((keysOf done).filter fun k => !decide (k ∈ ys))) _ ?_ ?_ es' PUnit.unit ⟨h2, [], rfl, rfl, fun c o hc e => (hs2.2 c hc).trans e, xr2.empty⟩)
  · rintro e rest _ s' ⟨hh, done, rfl, hde, hk, hS⟩
    have he : e ∈ es'.toList := by rw [← hde]; exact List.mem_append_right _ (.head _)
    obtain ⟨k, tk, rfl, hke'⟩ := elem_str (hel e he).1
    have xh : SRaw prog w hh a ea epa ta := x1.at fun o e => hk a o hra e
    have yh : SRaw prog w hh b eb epb tb := y1.at fun o e => hk b o hrb e
    dsimp only
    refine wpAny_bind (wpAny_holding ?_)
    rw [if_pos rfl]
    refine wpAny_bind (ssetFind (s := { s with heap := hh, drawn := dr }) yh (wpAny_bind (wpAny_pure ?_)))
    have hfi : ((keysOf eb.toList).findIdx? (· == k)).isSome = decide (k ∈ ys) := by
      rw [List.findIdx?_isSome, Bool.eq_iff_iff, List.any_eq_true, decide_eq_true_iff, ← hpy.mem_iff]
      exact ⟨fun ⟨z, hz, q⟩ => eq_of_beq q ▸ hz, fun q => ⟨k, q, beq_self_eq_true k⟩⟩
    rw [hfi]
    have ek : keysOf (done ++ [((strKind prog w).hash k, Value.str k tk)]) = keysOf done ++ [k] := by rw [keysOf, List.map_append]; rfl
    have hde' : (done ++ [((strKind prog w).hash k, Value.str k tk)]) ++ rest = es'.toList := by rw [← hde]; simp
    have knd : k ∉ keysOf done := by
      intro q
      have := hkn
      rw [← hde, keysOf, List.map_append] at this
      exact (List.nodup_append.mp this).2.2 k q k (.head _) rfl
    by_cases hky : k ∈ ys
    · rw [decide_eq_true hky, if_neg (by simp)]
      refine wpAny_pure ?_
      refine wpAny_bind (unchangedOk (s := { s with heap := hh, drawn := dr }) xh (wpAny_pure ?_))
      refine ⟨hh, _, rfl, hde', hk, ?_⟩
      rw [ek, List.filter_append]
      simpa [hky] using hS
    · rw [decide_eq_false hky, if_pos (by simp)]
      have hlen : ((keysOf done).filter fun k => !decide (k ∈ ys)).length + 1 ≤ 1000 := by
        have h1 := List.length_filter_le (fun k => !decide (k ∈ ys)) (keysOf done)
        have h2 : (keysOf done).length ≤ es'.toList.length := by rw [← hde]; simp [keysOf]
        have h3 : es'.toList.length = xs.length := by have := hke.length_eq; simpa [keysOf] using this
        omega
      refine wpAny_bind (ssetAddHashed (s := { s with heap := hh, drawn := dr }) hS hlen fun bb h3 hs3 hS3 => wpAny_pure ?_)
      refine wpAny_bind (unchangedOk (s := { s with heap := h3, drawn := dr }) (xh.at fun o e => (hs3.2 a hra).trans e) (wpAny_pure ?_))
      refine ⟨h3, _, rfl, hde', fun c o hc e => (hs3.2 c hc).trans (hk c o hc e), ?_⟩
      rw [ek, List.filter_append]
      rw [addTo, if_neg (fun q => knd (List.mem_filter.mp q).1)] at hS3
      simpa [hky] using hS3
  · rintro _ s' ⟨hh, done, rfl, hde, hk, hS⟩
    rw [List.append_nil] at hde
    rw [hde] at hS
    refine wpAny_pure (wpAny_pure (hQ r hh dr er (fun c o e => hk c o (fun q => by have := Heap.lt_size e; rw [q, er] at this; exact Nat.lt_irrefl _ this) (k1 c o e)) (hS.perm (hke.filter _))))

theorem subSets {b : Addr} {ys : List Str} {Q : Value → Shared → Prop} (hx : SSet prog w s.heap a xs) (hy : SSet prog w s.heap b ys) (hxl : xs.length ≤ 7) (hyn : ys ≠ [])
    (hQ : ∀ r h' dr, r = s.heap.objs.size → (∀ b o, s.heap.get? b = some o → h'.get? b = some o) → SSet prog w h' r (xs.filter fun k => !decide (k ∈ ys)) → Q (.ref r) { s with heap := h', drawn := dr }) :
    wpAny (model prog w) A (binaryOp .Sub (.ref a) (.ref b)) Q E s := by
  refine wpAny_binaryOp_same hx.typeIs hy.typeIs fills_set_sub PySem.F.slot_set_sub (wpAny_call_entry PySem.F.slot_set_sub hx.typeIs entry_set_sub ?_ (PySem.F.args_set_sub_2 _ _))
  unfold Builtin.«frozenset.__sub__»
  wp_delta
  refine wpAny_bind (m := Builtin.Frozenset.slot1 "__sub__" _) (wpAny_pure ?_)
  dsimp only
  rw [if_neg Bool.false_ne_true]
  dsimp only
  refine wpAny_bind (wpAny_bind (anySet_yes hx.typeIs ?_))
  refine anySet_yes hy.typeIs ?_
  rw [if_neg (by simp)]
  refine wpAny_bind (wpAny_pure ?_)
  refine wpAny_bind (ssetDifference hx hy hxl hyn fun r h' dr er k hS => wpAny_pure ⟨_, rfl, (fun q => by cases q), hQ r h' dr er k hS⟩)
end
end Mine
namespace Mine
open PySem PySem.W PyProof.Rows PySem.Calls
section
variable {prog : Program} {w : World} {A : Around} {E : Value → Shared → Prop} {s : Shared} {h h' : Heap} {a I : Addr} {es : Array (Int × Value)} {ep : Nat} {t : SetTable} {xs : List Str}

theorem set_getattr_none : typeLookup (.type "set") "__getattr__" = pure none := by rw [typeLookup_type, builtinLookup_eq_fast]; kernel_rfl
theorem entry_set_getattribute : entryFor table "set.__getattribute__" = some Builtin.«object.__getattribute__» :=
  entryFor_alias (id' := "object.__getattribute__") (by kernel_rfl) (by decide +kernel) (by decide +kernel) (by kernel_rfl)
theorem slot_md_get : Slot "method_descriptor" "__get__" "method_descriptor.__get__" :=
  .of (owner := "method_descriptor") (n := "__get__") (by rw [typeLookup_type, builtinLookup_eq_fast]; kernel_rfl) (by decide +kernel) (by decide +kernel) (by decide +kernel)
    (by first | exact .inl (by decide +kernel) | exact .inr (by decide +kernel)) (by rw [isSubtype_type]; kernel_rfl)
theorem entry_md_get : entryFor table "method_descriptor.__get__" = some Builtin.«method_descriptor.__get__» := entryFor_of_tree (by kernel_rfl)
theorem owner_md : Manifest.owners.lookup (String.ofList ['r', 'o', 't', 'p', 'i', 'r', 'c', 's', 'e', 'd', '_', 'd', 'o', 'h', 't', 'e', 'm'].reverse) = some Manifest.sig_method_descriptor := by kernel_rfl
theorem args_md_get (a b c : Value) : argsOk "method_descriptor.__get__" ⟨[a, b, c], []⟩ := by
  unfold argsOk; rw [signature?_of (id := "method_descriptor.__get__") (n := ['_', '_', 't', 'e', 'g', '_', '_']) (o := ['r', 'o', 't', 'p', 'i', 'r', 'c', 's', 'e', 'd', '_', 'd', 'o', 'h', 't', 'e', 'm']) (by kernel_rfl) owner_md]; kernel_rfl

theorem headPart' {M : Model} {p : Option Value} {o : Obj} {Q : Obj → Shared → Prop} (ho : s.heap.get? a = some o) (h : Q o s) : wpAny M A (loadPart a p) Q E s := fun _ _ _ => ⟨o, ho, h⟩

theorem findDupd {Q : Builtin.ObjectAttr.Found → Shared → Prop} {o : Obj} (hx : s.heap.get? a = some o) (hc : o.cls = .type "set") (hdc : o.dict = none) (hdt : o.data = .set es ep t) (hq : Q (.bind (.builtin "method_descriptor.__get__") (.builtin "set.difference_update")) s) :
    wpAny (model prog w) A (Builtin.ObjectAttr.find (.ref a) (.type "set") (Str.ofString "difference_update")) Q E s := by
  have f6 := PySem.F.slot_set_difference_update.lookup
  have f8 : typeLookup (.type "method_descriptor") "__get__" = pure (some (.builtin "method_descriptor.__get__")) := by rw [typeLookup_type, builtinLookup_eq_fast]; kernel_rfl
  have f9 : typeLookup (.type "method_descriptor") "__set__" = pure none := by rw [typeLookup_type, builtinLookup_eq_fast]; kernel_rfl
  have f10 : typeLookup (.type "method_descriptor") "__delete__" = pure none := by rw [typeLookup_type, builtinLookup_eq_fast]; kernel_rfl
  have hTb : ∀ s : Shared, s.TypeIs (.builtin "set.difference_update") "method_descriptor" := fun _ => PySem.F.type_set_difference_update
  unfold Builtin.ObjectAttr.find
  refine wpAny_bind (wpAny_of_eq f6 ?_)
  refine wpAny_bind (m := Builtin.ObjectAttr.getOf _) (wpAny_specialOf (hTb _) f8 ?_)
  refine wpAny_bind (m := Builtin.ObjectAttr.dataDescriptor? _ _) (wpAny_bind (m := Builtin.ObjectAttr.takesStores _) (wpAny_bind (wpAny_specialOf (hTb _) f9 ?_)))
  rw [if_neg (show ¬ (none : Option Value).isSome = true from Bool.false_ne_true)]
  refine wpAny_bind (wpAny_specialOf (hTb _) f10 (wpAny_pure ?_))
  rw [if_neg (show ¬ (none : Option Value).isSome = true from Bool.false_ne_true)]
  refine wpAny_pure ?_
  dsimp only
  unfold Builtin.ObjectAttr.ownThenClass Builtin.ObjectAttr.inOwnDict
  dsimp only
  refine wpAny_bind (wpAny_bind (m := Builtin.ObjectAttr.ownDict a) ?_)
  unfold Builtin.ObjectAttr.ownDict
  refine wpAny_bind (headPart' hx ?_)
  rw [hdt]
  dsimp only
  unfold instanceDict
  refine wpAny_bind (headPart' hx ?_)
  rw [hc, hdc]
  dsimp only
  rw [if_pos (by rfl)]
  refine wpAny_pure ?_
  refine wpAny_pure ?_
  refine wpAny_bind (m := Builtin.ObjectAttr.copiedAttributeGuard _ _) ?_
  unfold Builtin.ObjectAttr.copiedAttributeGuard
  dsimp only
  rw [if_neg (by decide)]
  refine wpAny_pure ?_
  unfold Builtin.ObjectAttr.byTheClass
  refine wpAny_bind (wpAny_rule (wpAny_pure hq))

theorem boundDupd {Q : Value → Shared → Prop} (hx : SSet prog w s.heap a xs)
    (hQ : ∀ m h' tk, m = s.heap.objs.size → h'.get? m = some { cls := .type "builtin_function_or_method", data := .fields #[.builtin "set.difference_update", .ref a] } → (∀ b o, s.heap.get? b = some o → h'.get? b = some o) → Q (.ref m) { s with heap := h', toks := tk }) :
    wpAny (model prog w) A (getAttr (.ref a) "difference_update") Q E s := by
  obtain ⟨es, ep, t, x, hp, hd⟩ := id hx
  obtain ⟨o, ho, hex, hdt⟩ := x.obj
  have hT : ∀ tk', ({ s with toks := tk' } : Shared).TypeIs (.ref a) "set" := fun _ => ⟨o, ho, hex.1⟩
  have f3 := PySem.F.slot_set_getattribute.lookup
  have f4 := PySem.F.slot_set_getattribute.bind (.ref a)
  have hTb : ∀ s : Shared, s.TypeIs (.builtin "set.difference_update") "method_descriptor" := fun _ => PySem.F.type_set_difference_update
  unfold getAttr
  refine wpAny_bind (wpAny_mkText ?_)
  unfold getAttrBy
  refine wpAny_holding ?_
  refine wpAny_bind (wpAny_typeOf (hT _) ?_)
  refine wpAny_bind (wpAny_of_eq f3 ?_)
  show wpAny _ _ (getAttrByItsOwn _ _ _ _ _ _) _ _ _
  unfold getAttrByItsOwn
  refine wpAny_bind (m := hookBefore _) (wpAny_pure ?_)
  refine wpAny_bind (wpAny_attempt (wpAny_holding ?_))
  show wpAny _ _ (boundAndCalled _ _ _) _ _ _
  unfold boundAndCalled
  refine wpAny_bind (wpAny_of_eq f4 ?_)
  dsimp only
  refine wpAny_call_entry PySem.F.slot_set_getattribute (hT _) entry_set_getattribute ?_ (PySem.F.args_set_getattribute_2 _ _)
  unfold Builtin.«object.__getattribute__»
  refine wpAny_bind (wpAny_pure ?_)
  refine wpAny_bind (m := Builtin.ObjectAttr.attrName _) (wpAny_pure ?_)
  refine wpAny_bind (wpAny_typeOf (hT _) ?_)
  refine wpAny_bind (findDupd (s := { s with toks := _ }) ho hex.1 hex.2.1 hdt ?_)
  dsimp only
  unfold Builtin.ObjectAttr.bindTo
  refine wpAny_bind (wpAny_holding (wpAny_call_entry slot_md_get (hTb _) entry_md_get ?_ (args_md_get _ _ _)))
  unfold Builtin.«method_descriptor.__get__»
  refine wpAny_bind (wpAny_pure (a := (Value.builtin "set.difference_update", some (Value.ref a), some (Value.type "set"))) ?_)
  dsimp only
  rw [if_neg (show ¬ Manifest.toldItsClass.contains "set.difference_update" = true by decide +kernel)]
  wp_delta
  refine wpAny_bind ?_
  wp_delta
  refine wpAny_bind ?_
  wp_delta
  refine wpAny_pure ?_
  have e1 : (".".intercalate ("set.difference_update".cutAt '.').dropLast) = "set" := by decide +kernel
  dsimp only
  rw [e1]
  refine wpAny_bind (wpAny_isInstance (hT _) sub_set_self ?_)
  rw [if_neg (by simp)]
  refine wpAny_pure ?_
  refine wpAny_bind (wpAny_newObj_type (wpAny_pure ⟨_, rfl, wpAny_pure ⟨_, rfl, ?_⟩⟩))
  exact wpAny_pure (hQ s.heap.objs.size _ _ rfl (Heap.get?_push_size _ rfl) fun b o e => Heap.get?_push_of_some _ e)
end
end Mine
namespace Mine
open PySem PySem.W PyProof.Rows PySem.Calls
section
variable {prog : Program} {w : World} {A : Around} {E : Value → Shared → Prop} {s : Shared} {h h' : Heap} {a I : Addr} {es : Array (Int × Value)} {ep : Nat} {t : SetTable} {xs : List Str}

theorem sig_dupd : Manifest.signature? "set.difference_update" = some ⟨.positional, "set.difference_update", "difference_update", .self, [⟨"others", .varPos, false⟩]⟩ := by
  rw [signature?_of (id := "set.difference_update") (n := ['e', 't', 'a', 'd', 'p', 'u', '_', 'e', 'c', 'n', 'e', 'r', 'e', 'f', 'f', 'i', 'd']) (o := ['t', 'e', 's']) (by kernel_rfl) PySem.F.owner_set]; kernel_rfl
theorem kind_dupd : builtinKind "set.difference_update" = some .method := by kernel_rfl
theorem sub_set_module : isSubtype (.type "set") (.type "module") = pure false := by rw [isSubtype_type]; kernel_rfl
theorem plain_dupd : plainId "set.difference_update" = true := by decide +kernel

theorem callBound {m b : Addr} {R : Result → Shared → Prop} (hm : s.heap.get? m = some { cls := .type "builtin_function_or_method", data := .fields #[.builtin "set.difference_update", .ref a] }) (hT : s.TypeIs (.ref a) "set") (hS : ∃ o es ep t, s.heap.get? a = some o ∧ o.ExactSet ∧ o.data = .set es ep t)
    (h : wpAny (model prog w) A.in1 (Builtin.«set.difference_update» ⟨[.ref a, .ref b], []⟩) (fun fin s' => match fin with | .done f => R (.ok f) s' | .again c' => c'.quiet = true ∧ codeAny (model prog w) A c' R s') (fun e s' => R (.error e) s') s) :
    codeAny (model prog w) A (.call (.ref m) ⟨[.ref b], []⟩) R s := by
  refine codeAny_of_tree ?_
  show wpAny _ _ (callAny (.ref m) _) _ _ s
  simp only [callAny]
  refine wpAny_bind (wpAny_load hm ?_)
  dsimp only
  rw [if_pos (by decide)]
  show wpAny _ _ (if (Value.type "builtin_function_or_method" != Value.type "method") = true then _ else _) _ _ _
  rw [if_pos (by decide)]
  refine wpAny_bind (m := checkBoundCall _ _) ?_
  unfold checkBoundCall
  rw [sig_dupd]
  dsimp only
  rw [kind_dupd]
  dsimp only
  rw [if_neg (by decide)]
  refine wpAny_bind (wpAny_isInstance hT sub_set_module ?_)
  rw [show Manifest.varargsMethods.contains "set.difference_update" = false by decide +kernel]
  simp only [Bool.or_self, Bool.false_eq_true, if_false]
  refine wpAny_bind (m := isType (.ref a)) (wpAny_mono (Q := fun b s' => b = false ∧ s' = s) ?_ (fun bb s' hb => ?_) fun _ _ e => e)
  · obtain ⟨o, es, ep, t, ho, hex, hdt⟩ := hS
    refine wpAny_bind (m := loadHead a) (headPart' ho ?_)
    rw [hdt]
    exact wpAny_pure ⟨rfl, rfl⟩
  obtain ⟨rfl, rfl⟩ := hb
  rw [if_neg Bool.false_ne_true]
  refine wpAny_bind (wpAny_typeOf hT ?_)
  dsimp only
  have e1 : toString (Bind.lastOf "set") ++ toString "." ++ toString (Bind.lastOf "set.difference_update") = "set.difference_update" := by decide +kernel
  rw [e1]
  have e2 := PySem.F.args_set_difference_update_2 (.ref a) (.ref b)
  unfold argsOk at e2
  rw [sig_dupd] at e2
  refine wpAny_of_eq e2 ?_
  refine wpAny_pure ⟨plainId_quiet plain_dupd _, codeAny_builtin PySem.F.entry_set_difference_update ?_⟩
  rw [Around.under_plainId plain_dupd _]
  exact h
end
end Mine
namespace Mine
open PySem PySem.W PyProof.Rows PySem.Calls

theorem slot_keys_rsub : Slot "dict_keys" (dunderR "sub") "dict_keys.__rsub__" :=
  .of (owner := "dict_keys") (n := "__rsub__") (by rw [typeLookup_type, builtinLookup_eq_fast]; kernel_rfl) (by decide +kernel) (by decide +kernel) (by decide +kernel)
    (by first | exact .inl (by decide +kernel) | exact .inr (by decide +kernel)) (by rw [isSubtype_type]; kernel_rfl)
theorem look_keys_sub : typeLookup (.type "dict_keys") (dunder "sub") = pure (some (.builtin "dict_keys.__sub__")) := by rw [typeLookup_type, builtinLookup_eq_fast]; kernel_rfl
theorem fills_keys_sub : fillsNumberSlot (.type "dict_keys") "sub" = pure true :=
  fillsNumberSlot_of (id := "dict_keys.__sub__") (r := some (.builtin "dict_keys.__rsub__")) look_keys_sub (by decide +kernel) slot_keys_rsub.lookup
theorem entry_keys_rsub : entryFor table "dict_keys.__rsub__" = some Builtin.«dict_items.__rsub__» :=
  entryFor_alias (id' := "dict_items.__rsub__") (by kernel_rfl) rfl (by decide +kernel) (by kernel_rfl)
theorem args_keys_rsub (a b : Value) : argsOk "dict_keys.__rsub__" ⟨[a, b], []⟩ := by
  unfold argsOk; rw [signature?_of (id := "dict_keys.__rsub__") (n := ['_', '_', 'b', 'u', 's', 'r', '_', '_']) (o := ['s', 'y', 'e', 'k', '_', 't', 'c', 'i', 'd']) (by kernel_rfl) kdl_owner_keys]; kernel_rfl
theorem sub_keys_of_set : isSubtype (.type "dict_keys") (.type "set") = pure false := by rw [isSubtype_type]; kernel_rfl

theorem entry_dupd_loop : entryFor table "set.difference_update.loop" = some Builtin.«set.difference_update.loop» := entryFor_of_tree (by kernel_rfl)
theorem plain_dupd_loop : plainId "set.difference_update.loop" = true := by decide +kernel

section
variable {prog : Program} {w : World} {A : Around} {E : Value → Shared → Prop} {s : Shared} {h h' : Heap} {a I : Addr} {es : Array (Int × Value)} {ep : Nat} {t : SetTable} {xs : List Str}
variable {R : Result → Shared → Prop} {fp wr : List Addr} {G : Array GenState → Array GenState → Prop} {n : Nat} {P : Nat → Value → Prop} {St : Nat → Shared → Prop}

def dropAll (xs ks : List Str) : List Str := ks.foldl List.erase xs
theorem discardLoop (W : WalksS prog w A.in1 I fp wr G n P St) (S : Addr) (hSf : S ∉ fp) (ord : List Str) (hord : ∀ i v, P i v → ∃ tk k, ord[i]? = some k ∧ v = .str k tk) (hn : ord.length = n) :
    ∀ (k i : Nat) (s : Shared) (ys : List Str), n - i = k → i ≤ n → St i s → SSet prog w s.heap S ys →
      (∀ s', Moved (S :: wr) G s s' → SSet prog w s'.heap S (dropAll ys (ord.drop i)) → R (.ok (.ret .none)) s') →
      codeAny (model prog w) A (.builtin "set.difference_update.loop" ⟨[.ref S, .ref I], []⟩) R s := by
  have hSw : S ∉ wr := fun h => hSf (W.sub _ h)
  have hsub : ∀ b ∈ wr, b ∈ S :: wr := fun b hb => List.mem_cons_of_mem _ hb
  intro k
  induction k with
  | zero =>
    intro i s ys hk hi hst hS hR
    have hin : i = n := by omega
    subst hin
    refine codeAny_builtin entry_dupd_loop ?_
    rw [Around.under_plainId plain_dupd_loop _]
    show wpAny _ A.in1 (pyNext (.ref I) >>= _) _ _ s
    refine wpAny_bind (W.done s _ _ hst fun s' hm => ?_)
    show wpAny _ A.in1 (ret Value.none) _ _ s'
    refine wpAny_pure (hR s' (hm.mono hsub) ?_)
    rw [List.drop_of_length_le (Nat.le_of_eq hn)]
    exact hS.at fun o e => hm.heap S o hSw e
  | succ k ih =>
    intro i s ys hk hi hst hS hR
    have hlt : i < n := by omega
    refine codeAny_builtin entry_dupd_loop ?_
    rw [Around.under_plainId plain_dupd_loop _]
    show wpAny _ A.in1 (pyNext (.ref I) >>= _) _ _ s
    refine wpAny_bind (W.item i s _ _ hlt hst fun v s' hP hst' hm => ?_)
    obtain ⟨tk, key, ek, rfl⟩ := hord i v hP
    show wpAny _ A.in1 (holding [Value.str key tk] (setDiscard S (.str key tk)) >>= _) _ _ s'
    refine wpAny_bind (wpAny_holding ?_)
    refine wpAny_with_toks (Nat.le_refl s'.toks) ?_
    refine ssetDiscard (hS.at fun o e => hm.heap S o hSw e) fun h' tok hsb hS2 htok => ?_
    refine wpAny_pure ⟨plainId_quiet plain_dupd_loop _, ih (i + 1) _ (ys.erase key) (by omega) hlt (W.frame _ s' _ _ hst' htok fun b hb o e => ?_) hS2 fun s'' hm'' hS'' => ?_⟩
    · rw [hsb.2 b (fun h : b = S => hSf (by rw [← h]; exact hb))]; exact e
    · have ed : ord.drop i = key :: ord.drop (i + 1) := by
        have hi' : i < ord.length := by omega
        rw [List.drop_eq_getElem_cons hi']
        rw [List.getElem?_eq_getElem hi', Option.some.injEq] at ek
        rw [ek]
      refine hR s'' (Moved.trans W.gtrans ((hm.mono hsub).then_heap htok fun b o hb e => ?_) hm'') (by rw [ed, dropAll, List.foldl_cons]; exact hS'')
      rw [hsb.2 b (fun h : b = S => hb (by rw [h]; exact List.mem_cons_self))]; exact e

theorem dropAll_len : ∀ (ks xs : List Str), (dropAll xs ks).length ≤ xs.length
  | [], _ => Nat.le_refl _
  | k :: r, xs => Nat.le_trans (dropAll_len r (xs.erase k)) (List.length_erase_le)
theorem dropAll_eq : ∀ {ks xs : List Str}, xs.Nodup → dropAll xs ks = xs.filter fun k => !decide (k ∈ ks)
  | [], xs, _ => by rw [List.filter_eq_self.mpr (by simp)]; rfl
  | k :: r, xs, h => by
    rw [dropAll, List.foldl_cons]
    have := dropAll_eq (ks := r) (h.erase k)
    rw [dropAll] at this
    rw [this, h.erase_eq_filter, List.filter_filter]
    refine List.filter_congr fun x _ => ?_
    by_cases hx : x = k <;> by_cases hr : x ∈ r <;> simp [hx, hr]

/-- a set, less the keys of a dict -/
theorem dupdKeys {kv d : Addr} {ks : List (Str × Value)} {Q : Shared → Prop} (hh : A.handled = none) (hS : SSet prog w s.heap a xs) (hxl : xs.length ≤ 7) (hv : KdlKeysView s.heap kv d) (hD : s.heap.DictOf (strKind prog w) d ks) (hkl : ks.length ≤ 100) (hak : a ≠ kv)
    (hQ : ∀ h' tk, (∀ b o, b ≠ a → s.heap.get? b = some o → h'.get? b = some o) → SSet prog w h' a (xs.filter fun k => !decide (k ∈ ks.map (·.1))) → Q { s with heap := h', toks := tk }) :
    wpAny (model prog w) A (Builtin.Frozenset.differenceUpdate "set.difference_update" a (.ref kv)) (fun _ s' => Q s') No s := by
  obtain ⟨ep, hat⟩ := hD.dictAt
  obtain ⟨_, _, _, _, _, hnd⟩ := id hS
  have had : a ≠ d := fun q => by
    obtain ⟨es, ep, t, x, _⟩ := hS
    obtain ⟨o, ho, hex, hdt⟩ := x.obj
    obtain ⟨o', es', ep', ho', hex', hdt', _⟩ := hD
    rw [q, ho'] at ho; cases ho; rw [hdt] at hdt'; cases hdt'
  have hal := hS.lt
  have hdl := dict_lt hD
  unfold Builtin.Frozenset.differenceUpdate
  rw [if_neg (by simp; exact Ne.symm hak)]
  refine wpAny_bind (anySet_no hv.typeIs sub_keys_set sub_keys_frozenset ?_)
  rw [if_neg Bool.false_ne_true]
  refine wpAny_bind (kdl_pyIter_keys hv hat ?_)
  refine wpAny_bind (wpAny_runValue ?_)
  have W := Walks.dictKeys (prog := prog) (w := w) (A := A.in1) (knd := strKind prog w) hh s.heap.objs.size d (Nat.ne_of_lt hdl) ks ep
  refine discardLoop (I := s.heap.objs.size) W.toS a ?_ (ks.map (·.1)) ?_ (by simp) (ks.length - 0) 0 _ xs rfl (Nat.zero_le _) ⟨⟨_, Heap.get?_push_size _ rfl, rfl, rfl⟩, hat.push _⟩ (hS.at fun o e => Heap.get?_push_of_some _ e) fun s' hm hS' => ?_
  · intro hm
    rcases List.mem_cons.mp hm with q | q
    · exact Nat.ne_of_lt hal q
    · exact had (List.mem_singleton.mp q)
  · rintro i v ⟨k, x, e, hk⟩
    obtain ⟨tk, rfl⟩ := strKind_isStr hk
    exact ⟨tk, k, by rw [List.getElem?_map, e]; rfl, rfl⟩
  · show wpAny _ _ (setTidy a) _ _ _
    rw [Moved.eq_with hm]
    have hS2 : SSet prog w s'.heap a (xs.filter fun k => !decide (k ∈ ks.map (·.1))) := by
      rw [List.drop_zero, dropAll_eq hnd] at hS'; exact hS'
    refine ssetTidy (s := { s with heap := s'.heap, toks := s'.toks }) hS2 (Nat.le_trans (List.length_filter_le _ _) hxl) fun h'' hs'' hS'' => hQ h'' s'.toks (fun b o hb e => ?_) hS''
    have hbI : b ≠ s.heap.objs.size := Nat.ne_of_lt (Heap.lt_size e)
    exact (hs''.2 b hb).trans (hm.heap b o (by simp [hb, hbI]) (Heap.get?_push_of_some _ e))

theorem notOneOf {types : List String} {Q : Bool → Shared → Prop} (hT : s.TypeIs (.ref a) "set") (hno : (types.any fun t => [Value.type "set", Value.type "object"].contains (.type t)) = false) (h : Q false s) : wpAny (model prog w) A (Builtin.Dict_items.isOneOf (.ref a) types) Q E s := by
  unfold Builtin.Dict_items.isOneOf
  refine wpAny_bind (wpAny_typeOf hT ?_)
  rw [PySem.F.mro_set]
  refine wpAny_bind (wpAny_pure (wpAny_pure ?_))
  rw [hno]; exact h

/-- `t - d.keys()` -/
theorem subKeys {kv d : Addr} {ks : List (Str × Value)} {Q : Value → Shared → Prop} (hh : A.handled = none) (hS : SSet prog w s.heap a xs) (hxl : xs.length ≤ 7) (hv : KdlKeysView s.heap kv d) (hD : s.heap.DictOf (strKind prog w) d ks) (hkl : ks.length ≤ 100)
    (hQ : ∀ r h' tk, s.heap.objs.size ≤ r → (∀ b o, s.heap.get? b = some o → h'.get? b = some o) → SSet prog w h' r (xs.filter fun k => !decide (k ∈ ks.map (·.1))) → Q (.ref r) { s with heap := h', toks := tk }) :
    wpAny (model prog w) A (binaryOp .Sub (.ref a) (.ref kv)) Q No s := by
  have hkv := hv.typeIs
  have hkvl : kv < s.heap.objs.size := let ⟨_, ho, _⟩ := hv; Heap.lt_size ho
  simp only [binaryOp, Operator.info]
  refine wpAny_holding ?_
  refine wpAny_bind (m := binaryOp1 "sub" _ _) ?_
  simp only [binaryOp1]
  refine wpAny_bind (wpAny_typeOf hS.typeIs (wpAny_bind (wpAny_typeOf hkv (wpAny_bind (wpAny_of_eq fills_set_sub ?_)))))
  have hne : (Value.type "set" == Value.type "dict_keys") = false := by decide
  simp only [hne, Bool.false_eq_true, if_false]
  refine wpAny_bind (wpAny_of_eq fills_keys_sub ?_)
  simp only [Bool.and_self, if_true]
  refine wpAny_bind (wpAny_of_eq sub_keys_of_set ?_)
  have hpy : numberSlotInPython (.type "set") "sub" = pure false := rfl
  simp only [Bool.false_eq_true, if_false, pure_bind, Bool.not_false, Bool.and_self, if_true, hpy]
  simp only [tryMethod]
  refine wpAny_bind (wpAny_bind (wpAny_callSpecial?_slot hS.typeIs PySem.F.slot_set_sub (wpAny_call_entry PySem.F.slot_set_sub hS.typeIs entry_set_sub ?_ (PySem.F.args_set_sub_2 _ _))))
  unfold Builtin.«frozenset.__sub__»
  wp_delta
  refine wpAny_bind (m := Builtin.Frozenset.slot1 "__sub__" _) (wpAny_pure ?_)
  dsimp only
  rw [if_neg Bool.false_ne_true]
  dsimp only
  refine wpAny_bind (wpAny_bind (anySet_yes hS.typeIs ?_))
  refine anySet_no hkv sub_keys_set sub_keys_frozenset ?_
  rw [if_pos (by simp)]
  refine wpAny_bind (wpAny_rule (wpAny_pure ⟨_, rfl, ?_⟩))
  refine wpAny_pure (wpAny_bind (wpAny_bind (wpAny_callSpecial?_slot hkv slot_keys_rsub (wpAny_call_entry slot_keys_rsub hkv entry_keys_rsub ?_ (args_keys_rsub _ _)))))
  unfold Builtin.«dict_items.__rsub__»
  wp_delta
  refine wpAny_bind (m := Builtin.Dict_items.slot1 "__rsub__" _) (wpAny_pure ?_)
  dsimp only
  rw [if_pos rfl]
  wp_delta
  refine wpAny_bind ?_
  wp_delta
  refine wpAny_bind (notOneOf hS.typeIs (by decide) ?_)
  rw [if_neg Bool.false_ne_true]
  show wpAny _ _ (call (.type "set") [.ref a]) _ _ _
  refine setOfSet (A := A.in1) hS hxl fun r h1 er k1 hS1 => ?_
  refine wpAny_bind (wpAny_holding (wpAny_bind (boundDupd (s := { s with heap := h1 }) hS1 fun m h2 tk2 em hm k2 => ?_)))
  have hS2 : SSet prog w h2 r xs := hS1.at fun o e => k2 _ o e
  have hSx : ∃ o es ep t, h2.get? r = some o ∧ o.ExactSet ∧ o.data = .set es ep t := by
    obtain ⟨es, ep, t, x, _⟩ := hS2
    obtain ⟨o, q1, q2, q3⟩ := x.obj
    exact ⟨o, es, ep, t, q1, q2, q3⟩
  refine wpAny_call (callBound (s := { s with heap := h2, toks := tk2 }) hm (SSet.typeIs (s := { s with heap := h2, toks := tk2 }) hS2) hSx ?_)
  unfold Builtin.«set.difference_update»
  refine wpAny_bind (m := Builtin.Frozenset.manyOthers _ _) (wpAny_pure ?_)
  dsimp only
  have k02 : ∀ b o, s.heap.get? b = some o → h2.get? b = some o := fun b o e => k2 b o (k1 b o e)
  have hrk : r ≠ kv := fun q => by rw [← q, er] at hkvl; exact Nat.lt_irrefl _ hkvl
  have hv2 : KdlKeysView h2 kv d := let ⟨o, q1, q2⟩ := hv; ⟨o, k02 _ _ q1, q2⟩
  refine wpAny_bind (wpAny_forIn_list _ (fun l _ s' => (l = [Value.ref kv] ∧ s' = { s with heap := h2, toks := tk2 }) ∨ (l = [] ∧ ∃ h' tk, s' = { s with heap := h', toks := tk } ∧ (∀ b o, s.heap.get? b = some o → h'.get? b = some o) ∧ SSet prog w h' r (xs.filter fun k => !decide (k ∈ ks.map (·.1))))) _ ?_ ?_ [Value.ref kv] PUnit.unit (.inl ⟨rfl, rfl⟩))
  · rintro x rest _ s' (⟨q, rfl⟩ | ⟨q, _⟩)
    · cases q
      refine wpAny_bind (wpAny_mono (dupdKeys (s := { s with heap := h2, toks := tk2 }) (A := A.in1.in1) hh hS2 hxl hv2 (hD.at fun o e => k02 _ o e) hkl hrk (Q := fun s' => ∃ h' tk, s' = { s with heap := h', toks := tk } ∧ (∀ b o, s.heap.get? b = some o → h'.get? b = some o) ∧ SSet prog w h' r (xs.filter fun k => !decide (k ∈ ks.map (·.1)))) fun h' tk k hS' => ⟨h', tk, rfl, fun b o e => k b o (fun q => by have := Heap.lt_size e; rw [q, er] at this; exact Nat.lt_irrefl _ this) (k02 b o e), hS'⟩) (fun _ s' hq => wpAny_pure (.inr ⟨rfl, hq⟩)) fun _ _ f => f.elim)
    · cases q
  · rintro _ s' (⟨q, _⟩ | ⟨_, h', tk, rfl, k, hS'⟩)
    · cases q
    · refine wpAny_pure ?_
      refine wpAny_pure ⟨_, rfl, ?_⟩
      exact wpAny_pure (wpAny_bind (wpAny_rule (wpAny_pure (wpAny_pure (hQ r h' tk (Nat.le_of_eq er.symm) k hS')))))
end
end Mine
namespace Mine
open PySem PySem.W PyProof.Rows PySem.Calls

theorem compTurn_set0 (elt t0 i0 t1 i1 : Expr) (scope : Scope) (pos : Pos) (it acc : Value) (env : Env) :
    compTurn (.SetComp elt [⟨t0, i0, [], 0⟩, ⟨t1, i1, [], 0⟩] scope pos) 0 it acc env = (standAt i0.pos >>= fun _ => pyNext it >>= fun r => match r with
      | none => pure (.done .next)
      | some v => letOwnedTupleGo t0 it v >>= fun _ => assign t0 env v >>= fun _ =>
        (eval i1 env >>= fun x => standAt i1.pos >>= fun _ => foldedSetIterable i1 env x >>= fun x => holding [x] (pyIter x) >>= fun it' =>
          runOwn (.compStart (.SetComp elt [⟨t0, i0, [], 0⟩, ⟨t1, i1, [], 0⟩] scope pos) 1 it' acc env) env >>= fun _ =>
          again (.compLoop (.SetComp elt [⟨t0, i0, [], 0⟩, ⟨t1, i1, [], 0⟩] scope pos) 0 it acc env))) := by rfl
theorem compTurn_set1 (elt t0 i0 t1 i1 : Expr) (scope : Scope) (pos : Pos) (it acc : Value) (env : Env) :
    compTurn (.SetComp elt [⟨t0, i0, [], 0⟩, ⟨t1, i1, [], 0⟩] scope pos) 1 it acc env = (standAt i1.pos >>= fun _ => pyNext it >>= fun r => match r with
      | none => pure (.done .next)
      | some v => letOwnedTupleGo t1 it v >>= fun _ => assign t1 env v >>= fun _ =>
        ((eval elt env >>= fun v => standAt elt.pos >>= fun _ => call (.builtin "set.add") [acc, v] >>= fun _ => pure ()) >>= fun _ =>
          again (.compLoop (.SetComp elt [⟨t0, i0, [], 0⟩, ⟨t1, i1, [], 0⟩] scope pos) 1 it acc env))) := by rfl

section
variable {prog : Program} {w : World} {A : Around} {E : Value → Shared → Prop} {s : Shared} {h h' : Heap} {a I : Addr} {es : Array (Int × Value)} {ep : Nat} {t : SetTable} {xs : List Str} {R : Result → Shared → Prop}

theorem startSet {elt t0 i0 t1 i1 : Expr} {scope : Scope} {pos : Pos} {it acc : Value} {env : Env} {d : Nat} {g : Comprehension} (hg : [(⟨t0, i0, [], 0⟩ : Comprehension), ⟨t1, i1, [], 0⟩][d]? = some g)
    (h0 : codeAny (model prog w) A (.compLoop (.SetComp elt [⟨t0, i0, [], 0⟩, ⟨t1, i1, [], 0⟩] scope pos) d it acc env) R s)
    (h : wpAny (model prog w) A (pyIter it) (fun it' s' => it' = it ∧ s' = s) No s) :
    codeAny (model prog w) A (.compStart (.SetComp elt [⟨t0, i0, [], 0⟩, ⟨t1, i1, [], 0⟩] scope pos) d it acc env) R s := by
  refine codeAny_of_tree ?_
  show wpAny _ _ ((compStart (.SetComp elt [⟨t0, i0, [], 0⟩, ⟨t1, i1, [], 0⟩] scope pos) d it acc env).onRaise (fun x => do noteFrame x env; standAt theWindowsPlace)) _ _ s
  refine wpAny_notedAt ?_
  unfold compStart
  have hcl : clausesOf (.SetComp elt [⟨t0, i0, [], 0⟩, ⟨t1, i1, [], 0⟩] scope pos) = [⟨t0, i0, [], 0⟩, ⟨t1, i1, [], 0⟩] := rfl
  rw [hcl, hg]
  have hz : g.is_async = 0 := by
    match d, hg with
    | 0, e => cases e; rfl
    | 1, e => cases e; rfl
    | _ + 2, e => simp at e
  simp only [Option.elim, hz]
  show wpAny _ _ (ask >>= _) _ _ s
  refine wpAny_bind (wpAny_askSetting (wpAny_ite ?_))
  split
  · exact wpAny_pure (And.intro rfl h0)
  · refine wpAny_bind (wpAny_rule (wpAny_bind (wpAny_standAt (wpAny_bind (wpAny_mono h (fun it' s' h' => ?_) fun _ _ f => f.elim)))))
    obtain ⟨rfl, rfl⟩ := h'
    exact wpAny_pure (And.intro rfl h0)

theorem callAdd {k : Str} {tk : Tok} {Q : Value → Shared → Prop} (x : SSet prog w s.heap a xs) (hb : xs.length + 1 ≤ 1000) (h : ∀ h' tok, Heap.SameBut a s.heap h' → SSet prog w h' a (addTo xs k) → Q .none { s with heap := h', toks := tok }) :
    wpAny (model prog w) A (call (.builtin "set.add") [.ref a, .str k tk]) Q E s := by
  refine wpAny_call_entry PySem.F.slot_set_add x.typeIs PySem.F.entry_set_add ?_ (PySem.F.args_set_add_2 _ _)
  unfold Builtin.«set.add» Builtin.Frozenset.oneOther
  simp only [List.isEmpty_nil, bind_assoc]
  unfold Builtin.Frozenset.addrOf
  refine wpAny_bind (wpAny_pure ?_)
  refine wpAny_bind (wpAny_pure ?_)
  refine wpAny_bind (ssetAdd x hb fun b h' tok hs hx => ?_)
  show wpAny _ _ (ret Value.none) _ _ _
  exact wpAny_pure ⟨_, rfl, h h' tok hs hx⟩

/-- the walk of one set, each element added -/
theorem innerLoop {x1 : Str} {px pe : Pos} {t0 i0 i1 : Expr} {scope : Scope} {pos : Pos} {cenv : Env} {fp : List Addr} {n : Nat} {P : Nat → Value → Prop} {St : Nat → Heap → Prop} {S : Addr} {m : Str → Option Value} {Y : List Str}
    (W : Walks prog w A I fp [I] n P St) (ord : List Str) (hord : ∀ i v, P i v → ∃ tk k, ord[i]? = some k ∧ v = .str k tk) (hn : n = ord.length)
    (hx : cenv.kindOf x1 = some .local) (hk : cenv.scope.kind = .function) (hd : (x1 == ("__debug__" : Str)) = false)
    (hCf : cenv.locals ∉ fp) (hSf : S ∉ fp) (hSC : S ≠ cenv.locals) (hst : St 0 s.heap) (hns : s.heap.Ns cenv.locals m) (hS : SSet prog w s.heap S Y) (hb : Y.length + ord.length ≤ 900)
    (hR : ∀ h' tk m', h'.Ns cenv.locals m' → SSet prog w h' S (ord.foldl addTo Y) → (∀ b o, b ≠ cenv.locals → b ≠ S → b ≠ I → s.heap.get? b = some o → h'.get? b = some o) → R (.ok .next) { s with heap := h', toks := tk }) :
    codeAny (model prog w) A (.compLoop (.SetComp (.Name x1 pe) [⟨t0, i0, [], 0⟩, ⟨.Name x1 px, i1, [], 0⟩] scope pos) 1 (.ref I) (.ref S) cenv) R s := by
  have hIf : I ∈ fp := W.sub I (.head _)
  have hIC : I ≠ cenv.locals := fun q => hCf (q ▸ hIf)
  have hIS : I ≠ S := fun q => hSf (q ▸ hIf)
  refine codeAny_loop rfl (fun c s' => ∃ h' tk m' i, s' = { s with heap := h', toks := tk } ∧ St i h' ∧ h'.Ns cenv.locals m' ∧ SSet prog w h' S ((ord.take i).foldl addTo Y) ∧ (∀ b o, b ≠ cenv.locals → b ≠ S → b ≠ I → s.heap.get? b = some o → h'.get? b = some o) ∧ i ≤ n ∧ c = n + 1 - i)
    (fun c s' hI => ?_) (n + 1) ⟨s.heap, s.toks, m, 0, rfl, hst, hns, hS, fun _ _ _ _ _ e => e, Nat.zero_le _, rfl⟩
  obtain ⟨h1, tk1, m1, i, rfl, st1, ns1, S1, k1, hi, rfl⟩ := hI
  show wpAny _ _ ((compTurn (.SetComp (.Name x1 pe) [⟨t0, i0, [], 0⟩, ⟨.Name x1 px, i1, [], 0⟩] scope pos) 1 (.ref I) (.ref S) cenv).onRaise (fun x => do noteFrame x cenv; theTreesLotGoes x)) _ _ _
  refine wpAny_noted ?_
  rw [compTurn_set1]
  refine wpAny_bind (wpAny_standAt (wpAny_bind ?_))
  have hlen : ((ord.take i).foldl addTo Y).length ≤ Y.length + i := by
    have := foldAdd_len (ord.take i) Y
    have h2 := List.length_take_le i ord
    omega
  by_cases hlt : i < n
  · refine W.item i _ _ _ hlt st1 fun v h2 tk2 hP st2 k2 => ?_
    obtain ⟨tkv, key, ek, rfl⟩ := hord i v hP
    have k2' : ∀ b o, b ≠ I → h1.get? b = some o → h2.get? b = some o := fun b o hb e => k2 b o (by simpa using hb) e
    have ns2 := ns1.at' (fun o e => k2' _ o (Ne.symm hIC) e)
    refine wpAny_bind (wpAny_of_eq (show letOwnedTupleGo (.Name x1 px) (.ref I) (.str key tkv) = pure () from rfl) ?_)
    refine wpAny_bind (wpAny_assign_Name (wpAny_storeName_local (s := { s with heap := h2, toks := tk2 }) hx ns2 (fun h3 ns3 hs3 => ?_) (by rw [hk]; rfl)))
    refine wpAny_bind (wpAny_bind (wpAny_Name (wpAny_loadName_local (s := { s with heap := h3, toks := _ }) hk hx ns3 (by simp; rfl) ?_) hd))
    refine wpAny_bind (wpAny_standAt ?_)
    have S3 : SSet prog w h3 S ((ord.take i).foldl addTo Y) := S1.at fun o e => (hs3.2 S hSC).trans (k2' S o (Ne.symm hIS) e)
    have st3 : St (i + 1) h3 := W.frame _ _ _ st2 fun b hb o e => (hs3.2 b (fun q => hCf (q ▸ hb))).trans e
    refine wpAny_bind (callAdd (s := { s with heap := h3, toks := _ }) S3 (by omega) fun h4 tok hs4 S4 => wpAny_pure (wpAny_pure ?_))
    have st4 : St (i + 1) h4 := W.frame _ _ _ st3 fun b hb o e => (hs4.2 b (fun q => hSf (q ▸ hb))).trans e
    refine ⟨rfl, n + 1 - (i + 1), by omega, h4, tok, _, i + 1, rfl, st4, ns3.at' (fun o e => (hs4.2 _ (Ne.symm hSC)).trans e), ?_, fun b o q1 q2 q3 e => ?_, hlt, rfl⟩
    · have et : ord.take (i + 1) = ord.take i ++ [key] := by rw [List.take_add_one, ek]; rfl
      rw [et, List.foldl_append]; exact S4
    · exact (hs4.2 b q2).trans ((hs3.2 b q1).trans (k2' b o q3 (k1 b o q1 q2 q3 e)))
  · have hin : i = n := by omega
    subst hin
    refine W.done _ _ _ st1 fun h2 tk2 k2 => wpAny_pure ?_
    have k2' : ∀ b o, b ≠ I → h1.get? b = some o → h2.get? b = some o := fun b o hb e => k2 b o (by simpa using hb) e
    rw [hn, List.take_length] at S1
    exact hR h2 tk2 m1 (ns1.at' (fun o e => k2' _ o (Ne.symm hIC) e)) (S1.at fun o e => k2' S o (Ne.symm hIS) e) fun b o q1 q2 q3 e => k2' b o q3 (k1 b o q1 q2 q3 e)
end
end Mine
namespace Mine
open PySem PySem.W PyProof.Rows PySem.Calls

/-- a set of names, by numbers -/
def NS (prog : Program) (w : World) (h : Heap) (a : Addr) (js : List Nat) : Prop := SSet prog w h a (js.map nm) ∧ ∀ j ∈ js, j < 7
inductive SRel (prog : Program) (w : World) (h : Heap) : List (Str × Value) → List (Nat × List Nat) → Prop
  | nil : SRel prog w h [] []
  | cons {l : Addr} {n : Nat} {js : List Nat} {kvs : List (Str × Value)} {D : List (Nat × List Nat)} : n < 7 → NS prog w h l js → SRel prog w h kvs D → SRel prog w h ((nm n, .ref l) :: kvs) ((n, js) :: D)
/-- a dict of sets -/
def SD (prog : Program) (w : World) (h : Heap) (d : Addr) (D : List (Nat × List Nat)) : Prop := ∃ kvs, h.DictOf (strKind prog w) d kvs ∧ SRel prog w h kvs D ∧ (d == sysModules) = false

section
variable {prog : Program} {w : World} {A : Around} {E : Value → Shared → Prop} {s : Shared} {h h' : Heap} {a d I : Addr} {es : Array (Int × Value)} {ep : Nat} {t : SetTable} {xs : List Str} {js : List Nat} {D : List (Nat × List Nat)} {kvs : List (Str × Value)} {R : Result → Shared → Prop}

theorem NS.at (x : NS prog w h a js) (hk : ∀ o, h.get? a = some o → h'.get? a = some o) : NS prog w h' a js := ⟨x.1.at hk, x.2⟩
theorem NS.nodup (x : NS prog w h a js) : js.Nodup := by
  obtain ⟨⟨_, _, _, _, _, hn⟩, _⟩ := x
  exact List.Pairwise.of_map nm (fun a b h e => h (e ▸ rfl)) hn
theorem NS.len (x : NS prog w h a js) : js.length ≤ 7 := nodup_len x.nodup x.2
theorem NS.lt (x : NS prog w h a js) : a < h.objs.size := x.1.lt
theorem SRel.at (x : SRel prog w h kvs D) (hk : ∀ b, b < h.objs.size → ∀ o, h.get? b = some o → h'.get? b = some o) : SRel prog w h' kvs D := by
  induction x with
  | nil => exact .nil
  | cons hn a _ ih => exact .cons hn (a.at fun o e => hk _ (Heap.lt_size e) o e) ih
theorem SRel.get : ∀ {kvs : List (Str × Value)} {D : List (Nat × List Nat)}, SRel prog w h kvs D → ∀ {i : Nat} {k : Str} {v : Value}, kvs[i]? = some (k, v) → ∃ (n : Nat) (js : List Nat) (l : Addr), D[i]? = some (n, js) ∧ k = nm n ∧ n < 7 ∧ v = Value.ref l ∧ NS prog w h l js
  | _, _, .nil, i, k, v, e => by simp at e
  | _, _, .cons (l := l) (n := n) (js := js) hn a r, 0, k, v, e => by simp at e; obtain ⟨rfl, rfl⟩ := e; exact ⟨n, js, l, rfl, rfl, hn, rfl, a⟩
  | _, _, .cons hn a r, i + 1, k, v, e => by simpa using SRel.get r (i := i) (by simpa using e)
theorem SRel.length : ∀ {kvs D}, SRel prog w h kvs D → kvs.length = D.length
  | _, _, .nil => rfl
  | _, _, .cons _ _ r => by simp [r.length]
theorem SRel.keys : ∀ {kvs D}, SRel prog w h kvs D → kvs.map (·.1) = D.map fun p => nm p.1
  | _, _, .nil => rfl
  | _, _, .cons _ _ r => by simp [r.keys]
theorem SD.at (x : SD prog w h d D) (hk : ∀ b, b < h.objs.size → ∀ o, h.get? b = some o → h'.get? b = some o) : SD prog w h' d D :=
  let ⟨kvs, b, c, e⟩ := x; ⟨kvs, b.at fun o q => hk d (Heap.lt_size q) o q, c.at hk, e⟩
theorem SD.lt (x : SD prog w h d D) : d < h.objs.size := let ⟨_, b, _⟩ := x; dict_lt b
theorem SD.keysLt (x : SD prog w h d D) : ∀ p ∈ D, p.1 < 7 ∧ ∀ j ∈ p.2, j < 7 := by
  obtain ⟨kvs, q1, r, q2⟩ := x
  clear q1 q2
  induction r with
  | nil => intro p hp; cases hp
  | cons hn a _ ih =>
    intro p hp
    rcases List.mem_cons.mp hp with rfl | hp
    · exact ⟨hn, a.2⟩
    · exact ih p hp
theorem SD.nodup (x : SD prog w h d D) : (D.map (·.1)).Nodup := by
  obtain ⟨kvs, b, r, _⟩ := x
  obtain ⟨_, _, _, _, _, _, _, _, hn⟩ := b
  rw [r.keys] at hn
  have : (D.map fun p => nm p.1) = (D.map (·.1)).map nm := by rw [List.map_map]; rfl
  rw [this] at hn
  exact List.Pairwise.of_map nm (fun a b h e => h (e ▸ rfl)) hn
theorem SD.len (x : SD prog w h d D) : D.length ≤ 7 := by
  have := nodup_len x.nodup fun n hn => by
    obtain ⟨p, hp, rfl⟩ := List.mem_map.mp hn
    exact (x.keysLt p hp).1
  simpa using this

theorem mem_nm {j : Nat} {js : List Nat} (hj : j < 7) (hb : ∀ x ∈ js, x < 7) : nm j ∈ js.map nm ↔ j ∈ js := by
  constructor
  · intro h
    obtain ⟨x, hx, e⟩ := List.mem_map.mp h
    exact nm_inj (hb x hx) hj e ▸ hx
  · intro h; exact List.mem_map.mpr ⟨j, h, rfl⟩
def addN (js : List Nat) (j : Nat) : List Nat := if j ∈ js then js else js ++ [j]
theorem addTo_nm {js : List Nat} {j : Nat} (hj : j < 7) (hb : ∀ x ∈ js, x < 7) : addTo (js.map nm) (nm j) = (addN js j).map nm := by
  unfold addTo addN
  by_cases h : j ∈ js
  · rw [if_pos h, if_pos ((mem_nm hj hb).mpr h)]
  · rw [if_neg h, if_neg fun q => h ((mem_nm hj hb).mp q), List.map_append]; rfl
theorem addN_mem {js : List Nat} {j x : Nat} : x ∈ addN js j ↔ x ∈ js ∨ x = j := by
  unfold addN; split
  · rename_i hk
    constructor
    · exact .inl
    · rintro (q | rfl)
      · exact q
      · exact hk
  · simp
theorem foldN_mem {x : Nat} : ∀ {ks js : List Nat}, x ∈ ks.foldl addN js ↔ x ∈ js ∨ x ∈ ks
  | [], _ => by simp
  | k :: r, js => by rw [List.foldl_cons, foldN_mem (ks := r), addN_mem, List.mem_cons, or_assoc]
theorem foldAdd_nm : ∀ {ks js : List Nat}, (∀ x ∈ ks, x < 7) → (∀ x ∈ js, x < 7) → (ks.map nm).foldl addTo (js.map nm) = (ks.foldl addN js).map nm
  | [], _, _, _ => rfl
  | k :: r, js, h1, h2 => by
    rw [List.map_cons, List.foldl_cons, List.foldl_cons, addTo_nm (h1 k (.head _)) h2]
    refine foldAdd_nm (fun x hx => h1 x (.tail _ hx)) fun x hx => ?_
    rcases addN_mem.mp hx with q | rfl
    · exact h2 x q
    · exact h1 x (.head _)

/-- an order of names is an order of numbers -/
theorem perm_nm {js : List Nat} {ord : List Str} (hn : js.Nodup) (hb : ∀ j ∈ js, j < 7) (h : ord.Perm (js.map nm)) : ∃ ks : List Nat, ord = ks.map nm ∧ ks.Perm js := by
  have hx : ∀ o : List Str, (∀ x ∈ o, ∃ j ∈ js, nm j = x) → ∃ ks : List Nat, o = ks.map nm ∧ ∀ k ∈ ks, k ∈ js := by
    intro o
    induction o with
    | nil => intro _; exact ⟨[], rfl, fun _ h => nomatch h⟩
    | cons x r ih =>
      intro hm
      obtain ⟨j, hj, e⟩ := hm x (.head _)
      obtain ⟨ks, e2, h2⟩ := ih fun y hy => hm y (.tail _ hy)
      exact ⟨j :: ks, by rw [e2, List.map_cons, e], fun k hk => by
        rcases List.mem_cons.mp hk with rfl | hk
        · exact hj
        · exact h2 k hk⟩
  obtain ⟨ks, rfl, h2⟩ := hx ord fun x hx => List.mem_map.mp (h.mem_iff.mp hx)
  refine ⟨ks, rfl, ?_⟩
  have hnd : (js.map nm).Nodup := by
    refine List.Pairwise.map nm (R := fun a b => a ≠ b ∧ a < 7 ∧ b < 7) (fun a b hab e => hab.1 (nm_inj hab.2.1 hab.2.2 e)) ?_
    exact hn.imp_of_mem fun ha hb' hab => ⟨hab, hb _ ha, hb _ hb'⟩
  have hkn : ks.Nodup := List.Pairwise.of_map nm (fun a b h e => h (e ▸ rfl)) (h.nodup_iff.mpr hnd)
  refine (List.perm_ext_iff_of_nodup hkn hn).mpr fun x => ⟨h2 x, fun hx => ?_⟩
  obtain ⟨k, hk, e⟩ := List.mem_map.mp (h.mem_iff.mpr (List.mem_map.mpr ⟨x, hx, rfl⟩))
  exact nm_inj (hb k (h2 k hk)) (hb x hx) e ▸ hk
theorem nm_nodup {js : List Nat} (hn : js.Nodup) (hb : ∀ j ∈ js, j < 7) : (js.map nm).Nodup := by
  refine List.Pairwise.map nm (R := fun a b => a ≠ b ∧ a < 7 ∧ b < 7) (fun a b hab e => hab.1 (nm_inj hab.2.1 hab.2.2 e)) ?_
  exact hn.imp_of_mem fun ha hb' hab => ⟨hab, hb _ ha, hb _ hb'⟩
theorem NS.perm {ks : List Nat} (x : NS prog w h a js) (p : js.Perm ks) : NS prog w h a ks := ⟨x.1.perm (p.map _), fun j hj => x.2 j (p.mem_iff.mpr hj)⟩

/-- iterating a set of names -/
def NWalk (prog : Program) (w : World) (s : Shared) (a : Addr) (js : List Nat) (Q : Value → Shared → Prop) : Prop :=
  ∀ I h' dr fp (ks : List Nat) (St : Nat → Heap → Prop), (∀ b o, s.heap.get? b = some o → h'.get? b = some o) → s.heap.objs.size ≤ I → I < h'.objs.size → ks.Perm js →
    (∀ A' : Around, A'.handled = none → Walks prog w A' I fp [I] ks.length (fun i v => ∃ tk k, ks[i]? = some k ∧ v = .str (nm k) tk) St) → St 0 h' → (∀ b ∈ fp, b = a ∨ s.heap.objs.size ≤ b) → (∀ b ∈ fp, b < h'.objs.size) →
    Q (.ref I) { s with heap := h', drawn := dr }
theorem nsIter {Q : Value → Shared → Prop} (x : NS prog w s.heap a js) (h : NWalk prog w s a js Q) : wpAny (model prog w) A (pyIter (.ref a)) Q E s := by
  refine ssetIter x.1 fun I h' dr fp n ord St hn k hI hp W st hf1 hf2 => ?_
  obtain ⟨ks, rfl, hk⟩ := perm_nm x.nodup x.2 hp
  rw [List.length_map] at hn
  subst hn
  have hIf : I ∈ fp := (W { handled := none, depth := 0, frames := none, guards := none, units := 0 } rfl).sub I (.head _)
  refine h I h' dr fp ks St k hI (hf2 I hIf) hk (fun A' hA => ?_) st hf1 hf2
  have W' := W A' hA
  exact { W' with item := fun i s Q E hi st h => W'.item i s Q E hi st fun v h' tk hv => h v h' tk (by
    obtain ⟨tk', k, e, rfl⟩ := hv
    rw [List.getElem?_map, Option.map_eq_some_iff] at e
    obtain ⟨k', e', rfl⟩ := e
    exact ⟨tk', k', e', rfl⟩) }
end
end Mine
namespace Mine
open PySem PySem.W PyProof.Rows PySem.Calls
section
variable {prog : Program} {w : World} {A : Around} {E : Value → Shared → Prop} {s : Shared} {h h' : Heap} {a d I : Addr} {js : List Nat} {D : List (Nat × List Nat)} {kvs : List (Str × Value)} {R : Result → Shared → Prop}

theorem outerLoop {x0 x1 : Str} {px0 px1 pe pi : Pos} {i0 : Expr} {scope : Scope} {pos : Pos} {cenv : Env} {S base : Addr} {m : Str → Option Value} {St : Nat → Heap → Prop} (hh : A.handled = none)
    (W : Walks prog w A I [I, d] [I] kvs.length (fun i v => ∃ k : Str, kvs[i]? = some (k, v)) St)
    (hr : SRel prog w s.heap kvs D) (hDl : D.length ≤ 7)
    (hx0 : cenv.kindOf x0 = some .local) (hx1 : cenv.kindOf x1 = some .local) (hk : cenv.scope.kind = .function) (hd0 : (x0 == ("__debug__" : Str)) = false) (hd1 : (x1 == ("__debug__" : Str)) = false)
    (hold : ∀ k l, (k, Value.ref l) ∈ kvs → l < base) (hdb : d < base) (hIb : base ≤ I) (hSb : base ≤ S) (hCb : base ≤ cenv.locals) (hIS' : I < S) (hIC : I ≠ cenv.locals) (hSC : S ≠ cenv.locals)
    (hst : St 0 s.heap) (hns : s.heap.Ns cenv.locals m) (hS : NS prog w s.heap S [])
    (hR : ∀ h' tk dr m' Y, h'.Ns cenv.locals m' → NS prog w h' S Y → (∀ x, x ∈ Y ↔ ∃ p ∈ D, x ∈ p.2) → (∀ b o, b < base → s.heap.get? b = some o → h'.get? b = some o) → R (.ok .next) { s with heap := h', toks := tk, drawn := dr }) :
    codeAny (model prog w) A (.compLoop (.SetComp (.Name x1 pe) [⟨.Name x0 px0, i0, [], 0⟩, ⟨.Name x1 px1, .Name x0 pi, [], 0⟩] scope pos) 0 (.ref I) (.ref S) cenv) R s := by
  have hlen := hr.length
  have hIS : I ≠ S := Nat.ne_of_lt hIS'
  refine codeAny_loop rfl (fun c s' => ∃ h' tk dr m' i Y, s' = { s with heap := h', toks := tk, drawn := dr } ∧ St i h' ∧ h'.Ns cenv.locals m' ∧ NS prog w h' S Y ∧ (∀ x, x ∈ Y ↔ ∃ p ∈ D.take i, x ∈ p.2) ∧ (∀ b o, b < base → s.heap.get? b = some o → h'.get? b = some o) ∧ i ≤ kvs.length ∧ c = kvs.length + 1 - i)
    (fun c s' hI => ?_) (kvs.length + 1) ⟨s.heap, s.toks, s.drawn, m, 0, [], rfl, hst, hns, hS, fun x => by simp, fun _ _ _ e => e, Nat.zero_le _, rfl⟩
  obtain ⟨h1, tk1, dr1, m1, i, Y, rfl, st1, ns1, S1, mem1, k1, hi, rfl⟩ := hI
  show wpAny _ _ ((compTurn (.SetComp (.Name x1 pe) [⟨.Name x0 px0, i0, [], 0⟩, ⟨.Name x1 px1, .Name x0 pi, [], 0⟩] scope pos) 0 (.ref I) (.ref S) cenv).onRaise (fun x => do noteFrame x cenv; theTreesLotGoes x)) _ _ _
  refine wpAny_noted ?_
  rw [compTurn_set0]
  refine wpAny_bind (wpAny_standAt (wpAny_bind ?_))
  by_cases hlt : i < kvs.length
  · refine W.item i _ _ _ hlt st1 fun v h2 tk2 hP st2 k2 => ?_
    obtain ⟨k, ek⟩ := hP
    obtain ⟨n, js, l, eD, rfl, hn7, rfl, hl0⟩ := hr.get ek
    have hlb : l < base := hold _ _ (List.mem_of_getElem? ek)
    have k2' : ∀ b o, b ≠ I → h1.get? b = some o → h2.get? b = some o := fun b o hb e => k2 b o (by simpa using hb) e
    have ns2 := ns1.at' (fun o e => k2' _ o (Ne.symm hIC) e)
    refine wpAny_bind (wpAny_of_eq (show letOwnedTupleGo (.Name x0 px0) (.ref I) (.ref l) = pure () from rfl) ?_)
    refine wpAny_bind (wpAny_assign_Name (wpAny_storeName_local (s := { s with heap := h2, toks := tk2, drawn := dr1 }) hx0 ns2 (fun h3 ns3 hs3 => ?_) (by rw [hk]; rfl)))
    refine wpAny_bind (wpAny_Name (wpAny_loadName_local (s := { s with heap := h3, toks := _, drawn := dr1 }) hk hx0 ns3 (by simp; rfl) ?_) hd0)
    refine wpAny_bind (wpAny_standAt (wpAny_bind (wpAny_of_eq (show foldedSetIterable (.Name x0 pi) cenv (.ref l) = pure (.ref l) from rfl) ?_)))
    have k03 : ∀ b o, b < base → s.heap.get? b = some o → h3.get? b = some o := fun b o hb e =>
      (hs3.2 b (Nat.ne_of_lt (Nat.lt_of_lt_of_le hb hCb))).trans (k2' b o (Nat.ne_of_lt (Nat.lt_of_lt_of_le hb hIb)) (k1 b o hb e))
    have l3 : NS prog w h3 l js := hl0.at fun o e => k03 l o hlb e
    have S3 : NS prog w h3 S Y := S1.at fun o e => (hs3.2 S hSC).trans (k2' S o (Ne.symm hIS) e)
    have st3 : St (i + 1) h3 := W.frame _ _ _ st2 fun b hb o e => (hs3.2 b (fun q => by
      rcases List.mem_cons.mp hb with q' | q'
      · exact hIC (q'.symm.trans q)
      · exact Nat.ne_of_lt (Nat.lt_of_lt_of_le hdb hCb) ((List.mem_singleton.mp q').symm.trans q))).trans e
    refine wpAny_bind (wpAny_holding (nsIter (s := { s with heap := h3, toks := _, drawn := dr1 }) l3 fun I1 h4 dr4 fp1 ks St1 k4 hI1 hI1' hper W1 st1' hf1 hf2 => ?_))
    have S4 : NS prog w h4 S Y := S3.at fun o e => k4 _ o e
    have ns4 := ns3.keeps k4
    have hC3 : cenv.locals < h3.objs.size := ns3.lt
    have hS3 : S < h3.objs.size := S3.lt
    have hI3 : I < h3.objs.size := Nat.lt_trans hIS' hS3
    have hl3 : l < h3.objs.size := l3.lt
    have st4 : St (i + 1) h4 := W.frame _ _ _ st3 fun b _ o e => k4 b o e
    have notIn : ∀ b, b ≠ l → b < h3.objs.size → b ∉ fp1 := fun b hbl hb hm => by
      rcases hf1 b hm with q | q
      · exact hbl q
      · exact Nat.not_lt.mpr q hb
    have hjl : js.length ≤ 7 := hl0.len
    have hYl : Y.length ≤ 7 := S1.len
    have hkl : ks.length ≤ 7 := by rw [hper.length_eq]; exact hjl
    refine wpAny_bind (wpAny_runOwn (startSet (d := 1) (g := ⟨.Name x1 px1, .Name x0 pi, [], 0⟩) rfl ?_ ?_))
    · refine innerLoop (s := { s with heap := h4, toks := _, drawn := dr4 }) (W1 _ hh) (ks.map nm) (fun i v hv => ?_) (by rw [List.length_map]) hx1 hk hd1
        (notIn _ (Ne.symm (Nat.ne_of_lt (Nat.lt_of_lt_of_le hlb hCb))) hC3) (notIn _ (Ne.symm (Nat.ne_of_lt (Nat.lt_of_lt_of_le hlb hSb))) hS3) hSC st1' ns4 S4.1 (by rw [List.length_map, List.length_map]; omega) (fun h5 tk5 m5 ns5 S5 k5 => wpAny_pure ?_)
      · obtain ⟨tk, q, e1, rfl⟩ := hv
        exact ⟨tk, nm q, by rw [List.getElem?_map, e1]; rfl, rfl⟩
      · have hks : ∀ x ∈ ks, x < 7 := fun x hx => hl0.2 x (hper.mem_iff.mp hx)
        rw [foldAdd_nm hks S1.2] at S5
        have k35 : ∀ b o, b ≠ cenv.locals → b ≠ S → b < h3.objs.size → h3.get? b = some o → h5.get? b = some o := fun b o q1 q2 hb e => k5 b o q1 q2 (fun q => Nat.not_lt.mpr hI1 (q ▸ hb)) (k4 b o e)
        refine ⟨rfl, kvs.length + 1 - (i + 1), by omega, h5, tk5, dr4, m5, i + 1, ks.foldl addN Y, rfl, ?_, ns5, ⟨S5, fun x hx => ?_⟩, fun x => ?_, fun b o hb e => ?_, hlt, rfl⟩
        · exact W.frame _ _ _ st3 fun b hb o e => by
            rcases List.mem_cons.mp hb with q | q
            · subst q; exact k35 _ o hIC hIS hI3 e
            · rw [List.mem_singleton.mp q] at e ⊢
              exact k35 d o (Nat.ne_of_lt (Nat.lt_of_lt_of_le hdb hCb)) (Nat.ne_of_lt (Nat.lt_of_lt_of_le hdb hSb)) (Heap.lt_size e) e
        · rcases foldN_mem.mp hx with q | q
          · exact S1.2 x q
          · exact hks x q
        · rw [foldN_mem, mem1 x]
          have et : D.take (i + 1) = D.take i ++ [(n, js)] := by rw [List.take_add_one, eD]; rfl
          rw [et]
          constructor
          · rintro (⟨p, hp, q⟩ | q)
            · exact ⟨p, List.mem_append_left _ hp, q⟩
            · exact ⟨(n, js), List.mem_append_right _ (.head _), hper.mem_iff.mp q⟩
          · rintro ⟨p, hp, q⟩
            rcases List.mem_append.mp hp with hp | hp
            · exact .inl ⟨p, hp, q⟩
            · rw [List.mem_singleton.mp hp] at q; exact .inr (hper.mem_iff.mpr q)
        · exact k35 b o (Nat.ne_of_lt (Nat.lt_of_lt_of_le hb hCb)) (Nat.ne_of_lt (Nat.lt_of_lt_of_le hb hSb)) (Heap.lt_size (k03 b o hb e)) (k03 b o hb e)
    · exact (W1 _ hh).self 0 _ _ _ st1' ⟨rfl, rfl⟩
  · have hin : i = kvs.length := by omega
    subst hin
    refine W.done _ _ _ st1 fun h2 tk2 k2 => wpAny_pure ?_
    have k2' : ∀ b o, b ≠ I → h1.get? b = some o → h2.get? b = some o := fun b o hb e => k2 b o (by simpa using hb) e
    rw [hlen, List.take_length] at mem1
    exact hR h2 tk2 dr1 m1 Y (ns1.at' (fun o e => k2' _ o (Ne.symm hIC) e)) (S1.at fun o e => k2' S o (Ne.symm hIS) e) mem1 fun b o hb e => k2' b o (Nat.ne_of_lt (Nat.lt_of_lt_of_le hb hIb)) (k1 b o hb e)
end
end Mine
namespace Mine
open PySem PySem.W PyProof.Rows PySem.Calls
section
variable {prog : Program} {w : World} {A : Around} {E : Value → Shared → Prop} {s : Shared} {h h' : Heap} {a d I : Addr} {js : List Nat} {D : List (Nat × List Nat)} {kvs : List (Str × Value)} {R : Result → Shared → Prop}

theorem setCompVals {env : Env} {x0 x1 : Str} {px0 px1 pe pi : Pos} {iter : Expr} {scope : Scope} {pos : Pos} {Q : Value → Shared → Prop} (hh : A.handled = none)
    (hclos : closureFor scope env = pure []) (hcell : ∀ y ∈ scope.names, y.2 ≠ .cell) (hkind : scope.kind = .function) (hnames : ∀ y ∈ scope.names, y.2 = .local → scope.names.lookup y.1 = some .local)
    (hx0 : scope.names.lookup x0 = some .local) (hx1 : scope.names.lookup x1 = some .local) (hd0 : (x0 == ("__debug__" : Str)) = false) (hd1 : (x1 == ("__debug__" : Str)) = false)
    (h : wpAny (model prog w) A (eval iter env) (fun xv s₁ => ∃ vw d kvs D, xv = .ref vw ∧ s₁.heap.IsValuesView vw d ∧ s₁.heap.DictOf (strKind prog w) d kvs ∧ SRel prog w s₁.heap kvs D ∧ D.length ≤ 7 ∧
      ∀ S h' tk dr Y, s₁.heap.objs.size ≤ S → (∀ b o, s₁.heap.get? b = some o → h'.get? b = some o) → NS prog w h' S Y → (∀ x, x ∈ Y ↔ ∃ p ∈ D, x ∈ p.2) → Q (.ref S) { s₁ with heap := h', toks := tk, drawn := dr }) No s)
    (hs : ∀ x, foldedSetIterable iter env x = pure x := by intro _; rfl) :
    wpAny (model prog w) A (eval (.SetComp (.Name x1 pe) [⟨.Name x0 px0, iter, [], 0⟩, ⟨.Name x1 px1, .Name x0 pi, [], 0⟩] scope pos) env) Q No s := by
  rw [arm_eval_SetComp]
  refine wpAny_comprehension_free (use := none) (gs := [⟨.Name x1 px1, .Name x0 pi, [], 0⟩]) rfl hs hclos hkind hnames (wpAny_mono h (fun xv s₁ h₁ => ?_) fun _ _ f => f)
  obtain ⟨vw, d, kvs, D, rfl, hv, hD, hr, hDl, hQ⟩ := h₁
  obtain ⟨ep, hat⟩ := hD.dictAt
  have hdl := dict_lt hD
  refine wpAny_pyIter_values hv hat ?_
  refine ssetNew (s := { s₁ with heap := _ }) fun S h2 eS k2 z2 xS => ?_
  refine wpAny_newFunctionEnv hcell (by intro y hy; simp at hy) (fun h3 hns3 hsb3 => ?_) hkind
  dsimp only at hns3 hsb3 ⊢
  have zI : (s₁.heap.push { cls := .type "dict_valueiterator", data := .fields #[.ref d, .int 0 0, .int kvs.length 0, .int ep 0] }).objs.size = s₁.heap.objs.size + 1 := Heap.size_push _ _
  have eS' : S = s₁.heap.objs.size + 1 := eS.trans zI
  have eC : h2.objs.size = s₁.heap.objs.size + 2 := by rw [z2, eS']
  have k01 : ∀ b o, s₁.heap.get? b = some o → h2.get? b = some o := fun b o e => k2 b o (Heap.get?_push_of_some _ e)
  have k23 : ∀ b o, h2.get? b = some o → h3.get? b = some o := fun b o e => hsb3.extBut b o (Nat.ne_of_lt (Heap.lt_size e)) (Heap.get?_push_of_some _ e)
  have W := Walks.dictValues (prog := prog) (w := w) (A := A) (knd := strKind prog w) hh s₁.heap.objs.size d (Nat.ne_of_lt hdl) kvs ep
  have st0 : (s₁.heap.push { cls := .type "dict_valueiterator", data := .fields #[.ref d, .int 0 0, .int kvs.length 0, .int ep 0] }).IsValIter s₁.heap.objs.size d 0 kvs.length ep := ⟨_, Heap.get?_push_size _ rfl, rfl, rfl⟩
  have hat' := hat.push { cls := .type "dict_valueiterator", data := .fields #[.ref d, .int 0 0, .int kvs.length 0, .int ep 0] }
  have st3 := W.frame 0 _ h3 ⟨st0, hat'⟩ fun b _ o e => k23 b o (k2 b o e)
  refine startSet (d := 0) (g := ⟨.Name x0 px0, iter, [], 0⟩) rfl ?_ (W.self 0 _ _ _ st3 ⟨rfl, rfl⟩)
  have hold : ∀ k l, (k, Value.ref l) ∈ kvs → l < s₁.heap.objs.size := fun k l hm => by
    obtain ⟨i, hi⟩ := List.getElem?_of_mem hm
    obtain ⟨n, js, l', _, _, _, e, hl⟩ := hr.get hi
    injection e with e; subst e; exact hl.lt
  have hkn : (compEnvC scope [] h2.objs.size env).scope.kind = .function := by simp [compEnvC, relabel, hkind]
  refine outerLoop (A := A) (s := { s₁ with heap := h3, toks := _ }) (kvs := kvs) (D := D) (base := s₁.heap.objs.size) (cenv := compEnvC scope [] h2.objs.size env) hh W (hr.at fun b _ o e => k23 b o (k01 b o e)) hDl
    (lookup_relabel_local hx0) (lookup_relabel_local hx1) hkn hd0 hd1 hold hdl (Nat.le_refl _) ?_ ?_ ?_ ?_ ?_ st3 hns3 ⟨(xS.empty).at fun o e => k23 S o e, fun _ h => nomatch h⟩ (fun h4 tk4 dr4 m4 Y ns4 S4 mem4 k4 => ?_)
  · rw [eS']; exact Nat.le_succ _
  · show s₁.heap.objs.size ≤ h2.objs.size
    rw [eC]; exact Nat.le_add_right _ _
  · rw [eS']; exact Nat.lt_succ_self _
  · show s₁.heap.objs.size ≠ h2.objs.size
    rw [eC]; exact Nat.ne_of_lt (Nat.lt_add_of_pos_right (by decide))
  · show S ≠ h2.objs.size
    rw [z2]; exact Nat.ne_of_lt (Nat.lt_succ_self _)
  · refine ⟨m4, ns4, fun h5 hs5 => ?_⟩
    have hSC : S ≠ h2.objs.size := by rw [z2]; exact Nat.ne_of_lt (Nat.lt_succ_self _)
    refine hQ S h5 tk4 dr4 Y (by rw [eS']; exact Nat.le_succ _) (fun b o e => ?_) (S4.at fun o e => (hs5.2 S hSC).trans e) mem4
    have hb := Heap.lt_size e
    refine (hs5.2 b (fun q => ?_)).trans (k4 b o hb (k23 b o (k01 b o e)))
    have : b = h2.objs.size := q
    rw [this, eC] at hb
    exact absurd hb (Nat.not_lt.mpr (Nat.le_add_right _ _))
end
end Mine
namespace Mine
open PySem PySem.W PyProof.Rows PySem.Calls
section
variable {prog : Program} {w : World} {A : Around} {E : Value → Shared → Prop} {s : Shared} {h h' : Heap} {a d I : Addr}

theorem WalksU.items (hh : A.handled = none) (hne : d ≠ I) (kvs : List (Str × Value)) (ep : Nat) :
    WalksU prog w A I [I, d] [I] kvs.length (fun i vals => ∃ (k : Str) (x : Value) (tk : Tok), kvs[i]? = some (k, x) ∧ vals = #[.str k tk, x])
      (fun i h => (∃ ok ov, IsItemIter h I d i kvs.length ep ok ov) ∧ h.DictAt (strKind prog w) d kvs ep)
      (fun i T h => (∃ ok ov, IsItemIterOut h I d (i + 1) kvs.length ep ok ov T) ∧ h.DictAt (strKind prog w) d kvs ep ∧ T ≠ I) where
  sub := fun b hb => by simp at hb; simp [hb]
  frame := fun _ _ _ st hk => ⟨let ⟨ok, ov, e⟩ := st.1; ⟨ok, ov, hk I (by simp) _ e⟩, st.2.at' fun o e => hk d (by simp) o e⟩
  item := fun i s Q E hi st hQ => by
    obtain ⟨⟨ok, ov, hit⟩, hm⟩ := st
    obtain ⟨⟨k, x⟩, hx⟩ : ∃ p, kvs[i]? = some p := ⟨kvs[i], by simp [hi]⟩
    refine wpAny_pyNext_items_item hit hm hx fun key h' hkey hit' hT hsz hk => ?_
    obtain ⟨tk, rfl⟩ := strKind_isStr hkey
    have hne' : s.heap.objs.size ≠ I := Nat.ne_of_gt (Heap.lt_size hit)
    exact hQ _ #[.str k tk, x] h' s.toks ⟨k, x, tk, hx, rfl⟩ ⟨_, hT, rfl, _, rfl⟩ ⟨⟨_, _, hit'⟩, hm.at' fun o e => hk d o hne e, hne'⟩ fun b o hb e => hk b o (by simpa using hb) e
  go := fun elts k pos i T s Q E hm hQ => by
    obtain ⟨⟨ok, ov, he⟩, hD, hTI⟩ := hm
    refine wpAny_letOwnedTupleGo_items he fun h' hit' hs' => ?_
    exact hQ h' ⟨⟨ok, ov, hit'⟩, hD.at' fun o e => (hs'.2 d hne).trans e⟩ fun b o hb e => (hs'.2 b (by simpa using hb)).trans e
  apart := fun i T h hm hb => hm.2.2 (by simpa using hb)
  done := fun s Q E st hQ => by
    obtain ⟨⟨ok, ov, hit⟩, hm⟩ := st
    exact wpAny_pyNext_items_end hh hit hm (by simp) fun h' he' => hQ h' s.toks fun b o hb e => he' b o (by simpa using hb) e
  self := fun _ _ _ _ st hQ => let ⟨_, _, e⟩ := st.1; kcp_self e hQ

/-- `.items()` of a dict -/
theorem callItems {kvs : List (Str × Value)} {Q : Value → Shared → Prop} (lo : (d == sysModules) = false) (hD : s.heap.DictOf (strKind prog w) d kvs)
    (h : ∀ v h', v = s.heap.objs.size → (∀ b o, s.heap.get? b = some o → h'.get? b = some o) → h'.IsItemsView v d → Q (.ref v) { s with heap := h' }) :
    wpAny (model prog w) A (call (.builtin "dict.items") [.ref d]) Q E s :=
  call_meetsIn PySem.F.slot_dict_items hD.typeIs PySem.F.entry_dict_items (PySem.F.args_dict_items_1 _) (meets_dict_items (strKind prog w) d lo) ⟨⟨kvs, hD⟩, h _ _ rfl (fun b o e => Heap.get?_push_of_some _ e) ⟨_, Heap.get?_push_size _ rfl, rfl, rfl⟩⟩
theorem callValues {kvs : List (Str × Value)} {Q : Value → Shared → Prop} (lo : (d == sysModules) = false) (hD : s.heap.DictOf (strKind prog w) d kvs)
    (h : ∀ v h', v = s.heap.objs.size → (∀ b o, s.heap.get? b = some o → h'.get? b = some o) → h'.IsValuesView v d → Q (.ref v) { s with heap := h' }) :
    wpAny (model prog w) A (call (.builtin "dict.values") [.ref d]) Q E s :=
  call_meetsIn PySem.F.slot_dict_values hD.typeIs PySem.F.entry_dict_values (PySem.F.args_dict_values_1 _) (meets_dict_values (strKind prog w) d lo) ⟨⟨kvs, hD⟩, h _ _ rfl (fun b o e => Heap.get?_push_of_some _ e) ⟨_, Heap.get?_push_size _ rfl, rfl, rfl⟩⟩
theorem callKeys {kvs : List (Str × Value)} {Q : Value → Shared → Prop} (lo : (d == sysModules) = false) (hD : s.heap.DictOf (strKind prog w) d kvs)
    (h : ∀ v h', v = s.heap.objs.size → (∀ b o, s.heap.get? b = some o → h'.get? b = some o) → KdlKeysView h' v d → Q (.ref v) { s with heap := h' }) :
    wpAny (model prog w) A (call (.builtin "dict.keys") [.ref d]) Q E s :=
  call_meetsIn PySem.F.slot_dict_keys hD.typeIs PySem.F.entry_dict_keys (PySem.F.args_dict_keys_1 _) (kdl_meets_keys (strKind prog w) d lo) ⟨⟨kvs, hD⟩, h _ _ rfl (fun b o e => Heap.get?_push_of_some _ e) ⟨_, Heap.get?_push_size _ rfl, rfl, rfl⟩⟩
end
end Mine
namespace Mine
open PySem PySem.W PyProof.Rows PySem.Calls

structure Gn (h : Heap) : Prop where
  glo : Glo h
  code : ∃ ps, h.IsCode 18 16 ps
  bi : ∃ mg, h.Ns mainGlobals mg ∧ h.BuiltinsAt mg 16

theorem DefAt.but {h h' : Heap} {a c nm st} (x : DefAt h a c nm st) (ha : a ≠ 16) (hc : c ≠ 16) (hk : ∀ b o, b ≠ 16 → h.get? b = some o → h'.get? b = some o) : DefAt h' a c nm st := by
  obtain ⟨o, pm, doc, h1, h2, c', oc, vs, tq, e1, e2, e3⟩ := x
  injection e1 with e1; subst e1
  exact ⟨o, pm, doc, hk _ _ ha h1, h2, c, oc, vs, tq, rfl, hk _ _ hc e2, e3⟩
theorem Glo.but {h h' : Heap} (x : Glo h) (hk : ∀ b o, b ≠ 16 → h.get? b = some o → h'.get? b = some o) : Glo h' :=
  ⟨let ⟨mc, a, b⟩ := x.nolimit; ⟨mc, a.at' fun o e => hk _ o (by decide) e, b⟩,
   let ⟨mg, mb, a, b, c⟩ := x.gb; ⟨mg, mb, a.at' fun o e => hk _ o (by decide) e, b.at' fun o e => hk _ o (by decide) e, c⟩,
   x.fcell.but (by decide) (by decide) hk, x.flean.but (by decide) (by decide) hk, x.fdeps.but (by decide) (by decide) hk, x.fsolve.but (by decide) (by decide) hk⟩
theorem Gn.but {h h' : Heap} (x : Gn h) (hk : ∀ b o, b ≠ 16 → h.get? b = some o → h'.get? b = some o) (hc : ∃ ps, h'.IsCode 18 16 ps) : Gn h' :=
  ⟨x.glo.but hk, hc, let ⟨mg, a, bm, o, b1, b2, b3, b4, b5, b6⟩ := x.bi; ⟨mg, a.at' fun o e => hk _ o (by decide) e, bm, o, b1, b2, b3, b4, hk _ _ b4 b5, b6⟩⟩
theorem Gn.keeps {h h' : Heap} (x : Gn h) (hk : ∀ b o, h.get? b = some o → h'.get? b = some o) : Gn h' :=
  x.but (fun b o _ e => hk b o e) (let ⟨ps, c⟩ := x.code; ⟨ps, c.keeps hk⟩)
/-- the code record and its table -/
def CodeTab (h : Heap) (ps : Array Value) : Prop := h.IsCode 18 16 ps ∧ h.TableAt 18 16 ps
/-- the heap since the law was called: all that stood stands, but for the table of the code objects, which grows -/
structure Sv (h₀ h : Heap) : Prop where
  g0 : Gn h₀
  keep : ∀ b o, b ≠ 16 → h₀.get? b = some o → h.get? b = some o
  code : ∃ ps, h.IsCode 18 16 ps
  grown : ∃ ps₀ more, h₀.TableAt 18 16 ps₀ ∧ CodeTab h (ps₀ ++ more)
theorem Sv.gn {h₀ h : Heap} (x : Sv h₀ h) : Gn h := x.g0.but x.keep x.code
theorem Sv.start {h₀ : Heap} {ps : Array Value} (g : Gn h₀) (t : CodeTab h₀ ps) : Sv h₀ h₀ := ⟨g, fun _ _ _ e => e, g.code, ps, #[], t.2, by rw [Array.append_empty]; exact t⟩
theorem Sv.off {h₀ h h' : Heap} (x : Sv h₀ h) (W : List Addr) (hW : ∀ b ∈ W, h₀.get? b = none) (hk : ∀ b o, b ∉ W → h.get? b = some o → h'.get? b = some o) : Sv h₀ h' := by
  have old : ∀ b o, h₀.get? b = some o → b ∉ W := fun b o e hm => by rw [hW b hm] at e; cases e
  refine ⟨x.g0, fun b o hb e => hk b o (old b o e) (x.keep b o hb e), ?_, ?_⟩
  rotate_left
  · obtain ⟨ps₀, more, t0, ⟨o, vs, file, tf, flags, tg, inF, text, tt, op, e1, r1, r2, r3, r4, r5, r6, e2, r⟩, ⟨⟨o2, vs2, f1, f2⟩, f3⟩⟩ := x.grown
    have n18 : (18 : Addr) ∉ W := let ⟨⟨_, _, q, _⟩, _⟩ := t0; old _ _ q
    have n16 : (16 : Addr) ∉ W := old _ _ t0.2
    exact ⟨ps₀, more, t0, ⟨o, vs, file, tf, flags, tg, inF, text, tt, op, hk _ _ n18 e1, r1, r2, r3, r4, r5, r6, hk _ _ n16 e2, r⟩, ⟨o2, vs2, hk _ _ n18 f1, f2⟩, hk _ _ n16 f3⟩
  obtain ⟨ps, c⟩ := x.code
  obtain ⟨ps₀, c₀⟩ := x.g0.code
  obtain ⟨o₀, _, _, _, _, _, _, _, _, op₀, q1, _, _, _, _, _, _, q2, _⟩ := c₀
  obtain ⟨o, vs, file, tf, flags, tg, inF, text, tt, op, e1, r1, r2, r3, r4, r5, r6, e2, r⟩ := c
  exact ⟨ps, o, vs, file, tf, flags, tg, inF, text, tt, op, hk _ _ (old _ _ q1) e1, r1, r2, r3, r4, r5, r6, hk _ _ (old _ _ q2) e2, r⟩
theorem Sv.keeps {h₀ h h' : Heap} (x : Sv h₀ h) (hk : ∀ b o, h.get? b = some o → h'.get? b = some o) : Sv h₀ h' := x.off [] (fun _ h => nomatch h) fun b o _ e => hk b o e
theorem Sv.but {h₀ h h' : Heap} (x : Sv h₀ h) (hk : ∀ b o, b ≠ 16 → h.get? b = some o → h'.get? b = some o) (hg : ∀ ps, CodeTab h ps → ∃ more, CodeTab h' (ps ++ more)) : Sv h₀ h' := by
  obtain ⟨ps₀, more, t0, t1⟩ := x.grown
  obtain ⟨m2, t2⟩ := hg _ t1
  exact ⟨x.g0, fun b o hb e => hk b o hb (x.keep b o hb e), ⟨_, t2.1⟩, ps₀, more ++ m2, t0, by rw [← Array.append_assoc]; exact t2⟩

theorem genexprCodeT {M : Model} {A : Around} {E : Value → Shared → Prop} {s : Shared} {env : Env} {ps : Array Value} {pos : Pos} {qualname : Str} {scope : Scope} {Q : Value → Shared → Prop} (hc : env.code = .ref 18) (ht : CodeTab s.heap ps)
    (hQ : ∀ code h' tk, Heap.ExtBut 16 s.heap h' → (∃ more, CodeTab h' (ps ++ more)) → Q code { s with heap := h', toks := tk }) :
    wpAny M A (genexprCode env pos qualname scope) Q E s := by
  cases hnf : codeAmong pos ps.toList with
  | some cv => exact wpAny_genexprCode_hit hc ht.1 hnf (hQ cv s.heap s.toks (Heap.ExtBut.refl _ _) ⟨#[], by rw [Array.append_empty]; exact ht⟩)
  | none => exact wpAny_genexprCodeX hc ht.1 ht.2 hnf fun c' h' tk hx _ _ hcode _ htab _ => hQ _ h' tk hx ⟨_, hcode, htab⟩
theorem CodeTab.uniq {h : Heap} {ps qs : Array Value} (x : CodeTab h ps) (y : CodeTab h qs) : ps = qs := by
  have e := x.2.2
  rw [y.2.2] at e
  injection e with e
  injection e with _ _ e _
  injection e with e
  exact e.symm
end Mine
namespace Mine
open PySem PySem.W PyProof.Rows PySem.Calls

def pzOf (D : List (Nat × List Nat)) (i : Nat) : Bool := ((D[i]?).map fun p => p.2.isEmpty).getD false
def refsOf (kvs : List (Str × Value)) : List Addr := kvs.filterMap fun p => match p.2 with | .ref a => some a | _ => none

section
variable {prog : Program} {w : World} {A : Around} {E : Value → Shared → Prop} {s : Shared} {h₀ h h' : Heap} {a d I : Addr} {D : List (Nat × List Nat)} {kvs : List (Str × Value)}

theorem refsOf_mem {l : Addr} : l ∈ refsOf kvs ↔ ∃ k, (k, Value.ref l) ∈ kvs := by
  unfold refsOf
  rw [List.mem_filterMap]
  constructor
  · rintro ⟨⟨k, v⟩, hp, e⟩
    cases v with
    | ref b => simp at e; subst e; exact ⟨k, hp⟩
    | _ => simp at e
  · rintro ⟨k, hp⟩; exact ⟨_, hp, rfl⟩

theorem SRel.mem (x : SRel prog w h kvs D) {k : Str} {l : Addr} (hm : (k, Value.ref l) ∈ kvs) : ∃ n js, (n, js) ∈ D ∧ k = nm n ∧ n < 7 ∧ NS prog w h l js := by
  obtain ⟨i, hi⟩ := List.getElem?_of_mem hm
  obtain ⟨n, js, l', e1, e2, e3, e4, e5⟩ := x.get hi
  injection e4 with e4; subst e4
  exact ⟨n, js, List.mem_of_getElem? e1, e2, e3, e5⟩

theorem passing_lt {pz : Nat → Bool} {n i : Nat} (h : i ∈ passing pz n 0) : i < n ∧ pz i = true := by
  unfold passing at h
  rw [List.drop_zero] at h
  obtain ⟨h1, h2⟩ := List.mem_filter.mp h
  exact ⟨List.mem_range.mp h1, h2⟩

/-- the names that lean on nothing, as the generator gives them -/
def emptyOf (D : List (Nat × List Nat)) : List Nat := (passing (pzOf D) D.length 0).map fun i => ((D[i]?).map (·.1)).getD 0
theorem emptyOf_mem {x : Nat} : x ∈ emptyOf D ↔ ∃ p ∈ D, p.2 = [] ∧ p.1 = x := by
  unfold emptyOf
  rw [List.mem_map]
  constructor
  · rintro ⟨i, hi, rfl⟩
    obtain ⟨h1, h2⟩ := passing_lt hi
    refine ⟨D[i], List.getElem_mem h1, ?_, ?_⟩
    · simpa [pzOf, List.getElem?_eq_getElem h1] using h2
    · simp [List.getElem?_eq_getElem h1]
  · rintro ⟨p, hp, h1, rfl⟩
    obtain ⟨i, hi, e⟩ := List.mem_iff_getElem.mp hp
    refine ⟨i, ?_, by simp [List.getElem?_eq_getElem hi, e]⟩
    unfold passing
    rw [List.drop_zero]
    exact List.mem_filter.mpr ⟨List.mem_range.mpr hi, by simp [pzOf, List.getElem?_eq_getElem hi, e, h1]⟩

theorem genKeys {env : Env} {xa xb : Str} {pa pb pt pe pv pu : Pos} {kt : Nat} {iter : Expr} {scope : Scope} {pos : Pos} {Q : Value → Shared → Prop}
    (hh : A.handled = none) (hco : scope.isCoroutine = false) (hclos : closureFor scope env = pure []) (hcell : ∀ y ∈ scope.names, y.2 ≠ .cell) (h0 : scope.names.lookup (".0" : Str) = some NameKind.local)
    (hxa : scope.names.lookup xa = some .local) (hxb : scope.names.lookup xb = some .local) (hab : xa ≠ xb) (hkind : scope.kind = .function) (hroom : A.depth < recursionLimit)
    (hda : (xa == ("__debug__" : Str)) = false) (hdb : (xb == ("__debug__" : Str)) = false) (hcode : env.code = .ref 18) (hgl : env.globals = mainGlobals)
    (h : wpAny (model prog w) A (eval iter env) (fun xv s₁ => ∃ vw d kvs D, xv = .ref vw ∧ s₁.heap.IsItemsView vw d ∧ s₁.heap.DictOf (strKind prog w) d kvs ∧ SRel prog w s₁.heap kvs D ∧ D.length ≤ 7 ∧ Sv h₀ s₁.heap ∧ (16 : Addr) ∉ refsOf kvs ∧ d ≠ 16 ∧ 
      ∀ a h₅ tk gs fp C I St, gs.bare = true → (∀ b o, b ≠ 16 → s₁.heap.get? b = some o → h₅.get? b = some o) → Sv h₀ h₅ → s₁.heap.objs.size ≤ a → s₁.heap.objs.size ≤ C → s₁.heap.objs.size ≤ I →
        WalksS prog w A.in4 a fp [C, I] (GenOnlyQ s₁.gens.size) (emptyOf D).length (fun j y => ∃ tk k, ((emptyOf D).map nm)[j]? = some k ∧ y = .str k tk) St →
        (∀ b ∈ fp, s₁.heap.objs.size ≤ b ∨ b = cStatics ∨ b = d ∨ b ∈ refsOf kvs) → (∀ i s', St i s' → s'.TypeIs (.ref a) "generator" ∧ s'.heap.IsGen a s₁.gens.size) →
        St 0 { s₁ with gens := s₁.gens.push gs, toks := tk, heap := h₅ } → Q (.ref a) { s₁ with gens := s₁.gens.push gs, toks := tk, heap := h₅ }) No s)
    (hs : ∀ x, genFold iter env x = pure x := by intro _; rfl) :
    wpAny (model prog w) A (eval (.GeneratorExp (.Name xa pe) [⟨.Tuple [.Name xa pa, .Name xb pb] kt pt, iter, [.UnaryOp .Not (.Name xb pv) pu], 0⟩] scope pos) env) Q No s := by
  refine wpAny_GeneratorExp_make hco hclos hcell h0 hkind hroom (wpAny_mono h (fun xv s₁ h₁ => ?_) fun _ _ f => f) hs
  obtain ⟨vw, d, kvs, D, rfl, hv, hD, hr, hDl, hsv, h16, hd16, hQ⟩ := h₁
  obtain ⟨ep, hat⟩ := hD.dictAt
  refine wpAny_pyIter_items hv hat ?_
  have hsv2 : Sv h₀ (s₁.heap.push { cls := .type "dict_itemiterator", data := .fields #[.none, .bool false, .ref d, .int 0 0, .int kvs.length 0, .int ep 0, .none, .none] }) := hsv.keeps fun b o e => Heap.get?_push_of_some _ e
  refine ⟨hsv2.gn.glo.nolimit, ?_⟩
  obtain ⟨pt0, ptm, _, hcd⟩ := hsv2.grown
  refine genexprCodeT (s := { s₁ with heap := _ }) hcode hcd fun code h3 tk3 hx3 hc3 => ?_
  have hsv3 : Sv h₀ h3 := hsv2.but (fun b o hb e => hx3 b o hb e) fun ps x => x.uniq hcd ▸ hc3
  obtain ⟨mg, hmg, bm, ob, b1, b2, b3, b4, b5, b6, b7, b8⟩ := hsv3.gn.bi
  refine wpAny_builtinsFor (s := { s₁ with heap := h3, toks := tk3 }) (hgl ▸ hmg) b1 b2 b5 b6 b7 b8 ?_
  intro h4 hn4 hs4
  dsimp only at hn4 hs4 ⊢
  have hIl : s₁.heap.objs.size < h3.objs.size := by
    have e : (s₁.heap.push { cls := .type "dict_itemiterator", data := .fields #[.none, .bool false, .ref d, .int 0 0, .int kvs.length 0, .int ep 0, .none, .none] }).get? s₁.heap.objs.size = some _ := Heap.get?_push_size _ rfl
    refine Heap.lt_size (hx3 _ _ (fun q => ?_) e)
    obtain ⟨_, _, _, _, _, _, _, _, _, op, _, _, _, _, _, _, _, e2, _⟩ := hsv.code.choose_spec
    have := Heap.lt_size e2
    rw [q] at this; exact Nat.lt_irrefl _ this
  have k34 : ∀ b o, h3.get? b = some o → h4.get? b = some o := fun b o e => hs4.extBut b o (Nat.ne_of_lt (Heap.lt_size e)) (Heap.get?_push_of_some _ e)
  have z4 : h4.objs.size = h3.objs.size + 1 := by rw [hs4.1, Heap.size_push]
  generalize hH5 : h4.push { cls := .type "generator", data := .fields #[.int s₁.gens.size 0, .str "<genexpr>" (tk3 + 1), .str (env.qual ++ "<genexpr>") (tk3 + 1 + 1)] } = h5
  have k35 : ∀ b o, h3.get? b = some o → h5.get? b = some o := fun b o e => hH5 ▸ Heap.get?_push_of_some _ (k34 b o e)
  have k15 : ∀ b o, b ≠ 16 → s₁.heap.get? b = some o → h5.get? b = some o := fun b o hb e => k35 b o (hx3 b o hb (Heap.get?_push_of_some _ e))
  have hsv5 : Sv h₀ h5 := hsv3.keeps k35
  have hg5 : h5.IsGen h4.objs.size s₁.gens.size := ⟨_, _, _, hH5 ▸ Heap.get?_push_size _ rfl, rfl, rfl, rfl⟩
  have hst5 : (h5.DictAt (strKind prog w) d kvs ep) := hat.at' fun o e => k15 d o hd16 e
  have hit5 : IsItemIter h5 s₁.heap.objs.size d 0 kvs.length ep .none .none := by
    refine k35 _ _ (hx3 _ _ (fun q => ?_) (Heap.get?_push_size _ rfl))
    obtain ⟨_, _, _, _, _, _, _, _, _, op, _, _, _, _, _, _, _, e2, _⟩ := hsv.code.choose_spec
    have := Heap.lt_size e2
    rw [← q] at this; exact Nat.lt_irrefl _ this
  have hdl := dict_lt hD
  have hlen := hr.length
  have hI0 : s₁.heap.get? s₁.heap.objs.size = none := get_none (Nat.le_refl _)
  have hcst : cStatics < s₁.heap.objs.size := let ⟨mc, hn, _⟩ := hsv.gn.glo.nolimit; hn.lt
  have hrl : ∀ l ∈ refsOf kvs, l < s₁.heap.objs.size := fun l hl => by
    obtain ⟨k, hk⟩ := refsOf_mem.mp hl
    obtain ⟨n, js, _, _, _, hns⟩ := hr.mem hk
    exact hns.lt
  have hCge : s₁.heap.objs.size < h3.objs.size := hIl
  have hfpC : h3.objs.size ∉ (cStatics :: s₁.heap.objs.size :: d :: refsOf kvs) := by
    intro hm
    rcases List.mem_cons.mp hm with q | hm
    · rw [q] at hCge; exact Nat.lt_irrefl _ (Nat.lt_trans hCge hcst)
    · rcases List.mem_cons.mp hm with q | hm
      · exact Nat.ne_of_gt hCge q
      · rcases List.mem_cons.mp hm with q | hm
        · exact Nat.ne_of_gt (Nat.lt_trans hdl hCge) q
        · exact Nat.ne_of_gt (Nat.lt_trans (hrl _ hm) hCge) rfl
  have hfpA : h4.objs.size ∉ (cStatics :: s₁.heap.objs.size :: d :: refsOf kvs) := by
    intro hm
    have hge : s₁.heap.objs.size < h4.objs.size := by rw [z4]; exact Nat.lt_succ_of_lt hCge
    rcases List.mem_cons.mp hm with q | hm
    · rw [q] at hge; exact Nat.lt_irrefl _ (Nat.lt_trans hge hcst)
    · rcases List.mem_cons.mp hm with q | hm
      · exact Nat.ne_of_gt hge q
      · rcases List.mem_cons.mp hm with q | hm
        · exact Nat.ne_of_gt (Nat.lt_trans hdl hge) q
        · exact Nat.ne_of_gt (Nat.lt_trans (hrl _ hm) hge) rfl
  have haC : h4.objs.size ≠ h3.objs.size := by rw [z4]; exact Nat.succ_ne_self _
  let F : Nat → Value → Prop := fun i y => ∃ tk n js, D[i]? = some (n, js) ∧ y = .str (nm n) tk
  have WS := WalksS.genexpQ (prog := prog) (w := w) (A := A.in4) hh h4.objs.size s₁.gens.size h3.objs.size (cStatics :: s₁.heap.objs.size :: d :: refsOf kvs) [s₁.heap.objs.size] (pzOf D) D.length F haC hfpA
    (fun b hb => by rw [List.mem_singleton.mp hb]; exact .tail _ (.head _)) hroom (.head _) (Nat.ne_of_lt (Nat.lt_trans hcst hCge)) (fun hm => Nat.ne_of_lt hcst (List.mem_singleton.mp hm))
  have hq : QuietGenT prog w (genEnv scope [] h3.objs.size code builtinsNs env) xa xb [.UnaryOp .Not (.Name xb pv) pu] (.Name xa pe) (cStatics :: s₁.heap.objs.size :: d :: refsOf kvs) [s₁.heap.objs.size]
      (fun i vals => ∃ (k : Str) (x : Value) (tk : Tok), kvs[i]? = some (k, x) ∧ vals = #[.str k tk, x]) (pzOf D) F h5 := by
    constructor
    · rintro A' E' i va vb s₂ m₂ hA ⟨k, x, tk, ek, eq⟩ hns hma hmb hk
      obtain ⟨n, js, l, eD, rfl, hn7, rfl, hl⟩ := hr.get ek
      have e1 : va = .str (nm n) tk ∧ vb = .ref l := by simpa using eq
      obtain ⟨rfl, rfl⟩ := e1
      have hlm : l ∈ refsOf kvs := refsOf_mem.mpr ⟨_, List.mem_of_getElem? ek⟩
      have hl16 : l ≠ 16 := fun q => h16 (q ▸ hlm)
      have hl2 : NS prog w s₂.heap l js := (hl.at fun o e => k15 l o hl16 e).at fun o e => hk l (.tail _ (.tail _ (.tail _ hlm))) (fun q => Nat.ne_of_lt hl.lt (List.mem_singleton.mp q)) o e
      refine wpAny_tests_one (isTrue_not (isTrue_plain (wpAny_Name (wpAny_loadName_local hkind hxb hns hmb (truthySet hl2.1 (by rw [List.length_map]; have := hl.len; omega) fun tk2 => ⟨?_, s₂.heap, tk2, rfl, fun _ _ e => e⟩)) hdb)))
      simp [pzOf, eD]
    · rintro A' E' i va vb s₂ m₂ hA ⟨k, x, tk, ek, eq⟩ hpz hns hma hmb hk
      obtain ⟨n, js, l, eD, rfl, hn7, rfl, hl⟩ := hr.get ek
      have e1 : va = .str (nm n) tk ∧ vb = .ref l := by simpa using eq
      obtain ⟨rfl, rfl⟩ := e1
      exact wpAny_Name (wpAny_loadName_local hkind hxa hns hma ⟨⟨tk, n, js, eD, rfl⟩, s₂.heap, s₂.toks, rfl, fun _ _ e => e⟩) hda
  have GA := GenAt.freshT (prog := prog) (w := w) (A := A.in4) (elt := .Name xa pe) (iter := iter) (pa := pa) (pb := pb) (pt := pt) (kt := kt) (scope := scope) (pos := pos) (cenv := genEnv scope [] h3.objs.size code builtinsNs env) (m := fun y => if y = ".0" then some (.ref s₁.heap.objs.size) else none)
    (s := { s₁ with gens := s₁.gens.push (.fresh (.compStart (.GeneratorExp (.Name xa pe) [⟨.Tuple [.Name xa pa, .Name xb pb] kt pt, iter, [.UnaryOp .Not (.Name xb pv) pu], 0⟩] scope pos) 0 (.ref s₁.heap.objs.size) .none (genEnv scope [] h3.objs.size code builtinsNs env))), toks := tk3 + 1 + 1 + 1, heap := h5 })
    (I := s₁.heap.objs.size) (a := h4.objs.size) (g := s₁.gens.size) (n₀ := kvs.length) hh
    (fun A' hA => (WalksU.items (prog := prog) (w := w) (A := A') hA (Nat.ne_of_lt hdl) kvs ep).mono_fp fun b hb => by
      rcases List.mem_cons.mp hb with q | q
      · rw [q]; exact .tail _ (.head _)
      · rw [List.mem_singleton.mp q]; exact .tail _ (.tail _ (.head _)))
    (fun i vals hv => by obtain ⟨k, x, tk, _, e⟩ := hv; exact ⟨_, _, e⟩) hab (pzOf D) F hxa hxb (by simp [genEnv, hkind]) hco hfpC hq hg5 (Array.getElem?_push_size ..) ⟨⟨_, _, hit5⟩, hst5⟩ (by rw [← hH5]; exact hn4.push _) hsv5.gn.glo.nolimit
  rw [hlen] at GA
  have hPl : (passing (pzOf D) D.length 0).length = (emptyOf D).length := by rw [emptyOf, List.length_map]
  rw [hPl] at WS
  refine hQ h4.objs.size h5 _ _ (h4.objs.size :: h3.objs.size :: cStatics :: s₁.heap.objs.size :: d :: refsOf kvs) h3.objs.size s₁.heap.objs.size _ rfl k15 hsv5 ?_ (Nat.le_of_lt hCge) (Nat.le_refl _) (WS.imp fun j y hy => ?_) ?_ (fun i s' st => ⟨st.1.typeIs, st.1⟩) GA
  · rw [z4]; exact Nat.le_succ_of_le (Nat.le_of_lt hCge)
  · obtain ⟨i, hi, tk, n, js, eD, rfl⟩ := hy
    refine ⟨tk, nm n, ?_, rfl⟩
    rw [List.getElem?_map, emptyOf, List.getElem?_map, hi]
    simp [eD]
  · intro b hb
    rcases List.mem_cons.mp hb with q | hb
    · rw [q, z4]; exact .inl (Nat.le_succ_of_le (Nat.le_of_lt hCge))
    · rcases List.mem_cons.mp hb with q | hb
      · rw [q]; exact .inl (Nat.le_of_lt hCge)
      · rcases List.mem_cons.mp hb with q | hb
        · exact .inr (.inl q)
        · rcases List.mem_cons.mp hb with q | hb
          · rw [q]; exact .inl (Nat.le_refl _)
          · rcases List.mem_cons.mp hb with q | hb
            · exact .inr (.inr (.inl q))
            · exact .inr (.inr (.inr hb))
end
end Mine
namespace Mine
open PySem PySem.W PyProof.Rows PySem.Calls
section
variable {prog : Program} {w : World} {A : Around} {E : Value → Shared → Prop} {s : Shared} {h₀ h h' : Heap} {a d I t : Addr} {D : List (Nat × List Nat)} {kvs : List (Str × Value)} {ys : List Str}
  {fp wr : List Addr} {G : Array GenState → Array GenState → Prop} {n : Nat} {P : Nat → Value → Prop} {St : Nat → Shared → Prop}

theorem updateGen {g : Nat} {ord : List Str} {Q : Value → Shared → Prop} (hS : SSet prog w s.heap t ys) (W : WalksS prog w A.in4 a fp wr G n P St) (hg : s.heap.IsGen a g) (htf : t ∉ fp)
    (hord : ∀ i v, P i v → ∃ tk k, ord[i]? = some k ∧ v = .str k tk) (hn : ord.length = n) (hb : n + ys.length ≤ 900) (st : St 0 s)
    (hQ : ∀ s', Moved (t :: wr) G s s' → SSet prog w s'.heap t (ord.foldl addTo ys) → Q .none s') :
    wpAny (model prog w) A (call (.builtin "set.update") [.ref t, .ref a]) Q No s := by
  refine wpAny_call_entry PySem.F.slot_set_update hS.typeIs PySem.F.entry_set_update ?_ (PySem.F.args_set_update_2 _ _)
  unfold Builtin.«set.update»
  refine wpAny_bind (m := Builtin.Frozenset.manyOthers _ _) (wpAny_pure ?_)
  dsimp only
  refine wpAny_bind (wpAny_forIn_list _ (fun l _ s' => (l = [Value.ref a] ∧ s' = s) ∨ (l = [] ∧ Moved (t :: wr) G s s' ∧ SSet prog w s'.heap t (ord.foldl addTo ys))) _ ?_ ?_ [Value.ref a] PUnit.unit (.inl ⟨rfl, rfl⟩))
  · rintro x rest _ s' (⟨q, rfl⟩ | ⟨q, _⟩)
    · cases q
      refine wpAny_bind (wpAny_mono (fillFrom (A := A.in1) (T := "generator") (ys := ys) hg.typeIs sub_gen_set sub_gen_frozenset (by decide) (Q := fun s'' => Moved (t :: wr) G s' s'' ∧ SSet prog w s''.heap t (ord.foldl addTo ys))
        (wpAny_pyIter_gen hg ⟨a, fp, wr, G, n, P, St, ord, rfl, W.in4_2, htf, hord, hn, hb, st, hS, fun s'' hm hS' => ⟨hm, hS'⟩⟩)) (fun _ s'' hq => wpAny_pure (.inr ⟨rfl, hq⟩)) fun _ _ f => f.elim)
    · cases q
  · rintro _ s' (⟨q, _⟩ | ⟨_, hm, hS'⟩)
    · cases q
    · exact wpAny_pure ⟨_, rfl, hQ s' hm hS'⟩
end
end Mine
namespace Mine
open PySem PySem.W PyProof.Rows PySem.Calls

/-- what is left of the dict, less what was told -/
def less (T : List Nat) (D : List (Nat × List Nat)) : List (Nat × List Nat) := (D.filter fun p => !p.2.isEmpty).map fun p => (p.1, p.2.filter fun j => !decide (j ∈ T))

section
variable {prog : Program} {w : World} {A : Around} {E : Value → Shared → Prop} {s : Shared} {h₀ h h' : Heap} {a d I t : Addr} {D : List (Nat × List Nat)} {kvs : List (Str × Value)} {ys : List Str} {R : Result → Shared → Prop}

theorem SRel.above (x : SRel prog w h kvs D) {lo : Addr} (hl : ∀ k l, (k, Value.ref l) ∈ kvs → lo ≤ l) (hk : ∀ b, lo ≤ b → ∀ o, h.get? b = some o → h'.get? b = some o) : SRel prog w h' kvs D := by
  induction x with
  | nil => exact .nil
  | cons hn a _ ih => exact .cons hn (a.at fun o e => hk _ (hl _ _ (.head _)) o e) (ih fun k l hm => hl k l (.tail _ hm))
theorem SRel.snoc (x : SRel prog w h kvs D) {n : Nat} {l : Addr} {js : List Nat} (hn : n < 7) (a : NS prog w h l js) : SRel prog w h (kvs ++ [(nm n, .ref l)]) (D ++ [(n, js)]) := by
  induction x with
  | nil => exact .cons hn a .nil
  | cons h1 h2 _ ih => exact .cons h1 h2 ih

theorem dictLoop {xa xb tn : Str} {pa pb pt pe pv pw pq pr : Pos} {kt : Nat} {iter : Expr} {scope : Scope} {pos : Pos} {cenv : Env} {S base c : Addr} {ep : Nat} {m : Str → Option Value} {T : List Nat} (hh : A.handled = none)
    (hr : SRel prog w s.heap kvs D) (hDl : D.length ≤ 7) (hDn : (D.map (·.1)).Nodup)
    (hxa : cenv.kindOf xa = some .local) (hxb : cenv.kindOf xb = some .local) (hxt : cenv.kindOf tn = some .cell) (hab : xa ≠ xb) (hk : cenv.scope.kind = .function)
    (hda : (xa == ("__debug__" : Str)) = false) (hdb : (xb == ("__debug__" : Str)) = false) (hdt : (tn == ("__debug__" : Str)) = false)
    (hc : cenv.cells.lookup tn = some c) (hcell : s.heap.IsCell c (some (.ref t))) (hT : NS prog w s.heap t T) (hTn : T ≠ [])
    (hold : ∀ k l, (k, Value.ref l) ∈ kvs → l < base) (hdb' : d < base) (hcb : c < base) (htb : t < base) (hIb : base ≤ I) (hIS : I < S) (hSC : S < cenv.locals)
    (hst : IsItemIter s.heap I d 0 kvs.length ep .none .none) (hat : s.heap.DictAt (strKind prog w) d kvs ep) (hns : s.heap.Ns cenv.locals m) (hS : s.heap.DictOf (strKind prog w) S [])
    (hR : ∀ h' tk dr m' kvs', h'.Ns cenv.locals m' → h'.DictOf (strKind prog w) S kvs' → SRel prog w h' kvs' (less T D) → (∀ k l, (k, Value.ref l) ∈ kvs' → cenv.locals < l) → (∀ b o, b < base → s.heap.get? b = some o → h'.get? b = some o) → R (.ok .next) { s with heap := h', toks := tk, drawn := dr }) :
    codeAny (model prog w) A (.compLoop (.DictComp (.Name xa pe) (.BinOp (.Name xb pv) .Sub (.Name tn pw) pq) [⟨.Tuple [.Name xa pa, .Name xb pb] kt pt, iter, [.Name xb pr], 0⟩] scope pos) 0 (.ref I) (.ref S) cenv) R s := by
  have hlen := hr.length
  have W := WalksU.items (prog := prog) (w := w) (A := A) hh (Nat.ne_of_lt (Nat.lt_of_lt_of_le hdb' hIb)) kvs ep
  have hp : (cenv.scope.kind == .class || (cenv.scope.kind == .module && cenv.locals != cenv.globals)) = false := by rw [hk]; rfl
  have hIC : I < cenv.locals := Nat.lt_trans hIS hSC
  have bC : ∀ b, b < base → b ≠ cenv.locals := fun b hb => Nat.ne_of_lt (Nat.lt_trans (Nat.lt_of_lt_of_le hb hIb) hIC)
  have bS : ∀ b, b < base → b ≠ S := fun b hb => Nat.ne_of_lt (Nat.lt_trans (Nat.lt_of_lt_of_le hb hIb) hIS)
  have bI : ∀ b, b < base → b ≠ I := fun b hb => Nat.ne_of_lt (Nat.lt_of_lt_of_le hb hIb)
  refine codeAny_loop rfl (fun cc s' => ∃ h' tk dr m' i kvs', s' = { s with heap := h', toks := tk, drawn := dr } ∧ (∃ ok ov, IsItemIter h' I d i kvs.length ep ok ov) ∧ h'.DictAt (strKind prog w) d kvs ep ∧ h'.Ns cenv.locals m' ∧ h'.DictOf (strKind prog w) S kvs' ∧
      SRel prog w h' kvs' (less T (D.take i)) ∧ (∀ k l, (k, Value.ref l) ∈ kvs' → cenv.locals < l) ∧ (∀ b o, b < base → s.heap.get? b = some o → h'.get? b = some o) ∧ i ≤ kvs.length ∧ cc = kvs.length + 1 - i)
    (fun cc s' hI => ?_) (kvs.length + 1) ⟨s.heap, s.toks, s.drawn, m, 0, [], rfl, ⟨_, _, hst⟩, hat, hns, hS, .nil, fun _ _ h => (nomatch h), fun _ _ _ e => e, Nat.zero_le _, rfl⟩
  obtain ⟨h1, tk1, dr1, m1, i, kv1, rfl, st1, at1, ns1, S1, R1, ab1, k1, hi, rfl⟩ := hI
  show wpAny _ _ ((compTurn (.DictComp (.Name xa pe) (.BinOp (.Name xb pv) .Sub (.Name tn pw) pq) [⟨.Tuple [.Name xa pa, .Name xb pb] kt pt, iter, [.Name xb pr], 0⟩] scope pos) 0 (.ref I) (.ref S) cenv).onRaise (fun x => do noteFrame x cenv; theTreesLotGoes x)) _ _ _
  refine wpAny_noted ?_
  rw [compTurn_dict]
  refine wpAny_bind (wpAny_standAt (wpAny_bind ?_))
  have hS1l := dict_lt S1
  have hC1l := ns1.lt
  by_cases hlt : i < kvs.length
  · refine W.item i _ _ _ hlt ⟨st1, at1⟩ fun Tp vals h2 tk2 hP hT2 hmid k2 => ?_
    obtain ⟨k, x, tkk, ek, rfl⟩ := hP
    obtain ⟨n, js, l, eD, rfl, hn7, rfl, hl0⟩ := hr.get ek
    have hlb : l < base := hold _ _ (List.mem_of_getElem? ek)
    refine wpAny_bind (W.go _ _ _ i Tp _ _ _ hmid fun h3 st3 k3 => ?_)
    have hT3 : h3.IsTuple Tp #[.str (nm n) tkk, .ref l] := let ⟨o, e, r⟩ := hT2; ⟨o, k3 _ o (W.apart i Tp _ hmid) e, r⟩
    have k13 : ∀ b o, b ≠ I → h1.get? b = some o → h3.get? b = some o := fun b o hb e => k3 b o (by simpa using hb) (k2 b o (by simpa using hb) e)
    refine wpAny_bind (wpAny_assign_Tuple (s := { s with heap := h3, toks := tk2, drawn := dr1 }) hh hT3 rfl rfl fun h4 x4 => ?_)
    have k34 : ∀ b o, h3.get? b = some o → h4.get? b = some o := fun b o e => x4 b o (Nat.ne_of_lt (Heap.lt_size e)) e
    have ns4 := ns1.at' (fun o e => k34 _ o (k13 _ o (Ne.symm (Nat.ne_of_lt hIC)) e))
    show wpAny _ _ (do holding [Value.ref l] (assign (.Name xa pa) cenv (.str (nm n) tkk)); do holding [] (assign (.Name xb pb) cenv (.ref l)); pure ()) _ _ _
    refine wpAny_bind (wpAny_holding (wpAny_assign_Name (wpAny_storeName_local (s := { s with heap := h4, toks := _, drawn := dr1 }) hxa ns4 (fun h5 ns5 hs5 => ?_) hp)))
    refine wpAny_bind (wpAny_holding (wpAny_assign_Name (wpAny_storeName_local (s := { s with heap := h5, toks := _, drawn := dr1 }) hxb ns5 (fun h6 ns6 hs6 => wpAny_pure ?_) hp)))
    have k16 : ∀ b o, b ≠ cenv.locals → b ≠ I → h1.get? b = some o → h6.get? b = some o := fun b o q1 q2 e => (hs6.2 b q1).trans ((hs5.2 b q1).trans (k34 b o (k13 b o q2 e)))
    have k06 : ∀ b o, b < base → s.heap.get? b = some o → h6.get? b = some o := fun b o hb e => k16 b o (bC b hb) (bI b hb) (k1 b o hb e)
    have l6 : NS prog w h6 l js := hl0.at fun o e => k06 l o hlb e
    have st6 := W.frame (i + 1) _ h6 st3 fun b hb o e => by
      have hbC : b ≠ cenv.locals := by
        rcases List.mem_cons.mp hb with q | q
        · rw [q]; exact Nat.ne_of_lt hIC
        · rw [List.mem_singleton.mp q]; exact bC d hdb'
      exact (hs6.2 b hbC).trans ((hs5.2 b hbC).trans (k34 b o e))
    have S6 : h6.DictOf (strKind prog w) S kv1 := S1.at fun o e => k16 S o (Nat.ne_of_lt hSC) (Ne.symm (Nat.ne_of_lt hIS)) e
    have R6 : SRel prog w h6 kv1 (less T (D.take i)) := R1.above (lo := cenv.locals + 1) (fun k l hm => ab1 k l hm) fun b hb o e => k16 b o (Ne.symm (Nat.ne_of_lt hb)) (Ne.symm (Nat.ne_of_lt (Nat.lt_trans hIC hb))) e
    have et : D.take (i + 1) = D.take i ++ [(n, js)] := by rw [List.take_add_one, eD]; rfl
    refine wpAny_bind (wpAny_tests_one (isTrue_plain (wpAny_Name (wpAny_loadName_local (s := { s with heap := h6, toks := _, drawn := dr1 }) hk hxb ns6 (by simp) (truthySet l6.1 (by rw [List.length_map]; have := l6.len; omega) fun tk7 => ?_)) hdb)))
    have ejs : (!(js.map nm).isEmpty) = !js.isEmpty := by cases js <;> rfl
    rw [ejs]
    cases hje : js.isEmpty with
    | true =>
      rw [Bool.not_true, if_neg Bool.false_ne_true]
      refine wpAny_pure ⟨rfl, kvs.length + 1 - (i + 1), by omega, h6, tk7, dr1, _, i + 1, kv1, rfl, st6.1, st6.2, ns6, S6, ?_, ab1, k06, hlt, rfl⟩
      rw [et, less, List.filter_append, List.map_append]
      simpa [hje, less] using R6
    | false =>
      rw [Bool.not_false, if_pos rfl]
      have hcell6 : h6.IsCell c (some (.ref t)) := let ⟨o, e, r⟩ := hcell; ⟨o, k06 c o hcb e, r⟩
      have T6 : NS prog w h6 t T := hT.at fun o e => k06 t o htb e
      refine wpAny_bind (wpAny_bind (wpAny_Name (wpAny_loadName_local (v := .str (nm n) tkk) (s := { s with heap := h6, toks := tk7, drawn := dr1 }) hk hxa ns6 (by simp [hab]) ?_) hda))
      refine wpAny_bind (wpAny_holding (wpAny_BinOp (wpAny_Name (wpAny_loadName_local (s := { s with heap := h6, toks := tk7, drawn := dr1 }) hk hxb ns6 (by simp) (wpAny_Name (wpAny_loadName_cell (s := { s with heap := h6, toks := tk7, drawn := dr1 }) hk hxt hc hcell6
        (subSets (s := { s with heap := h6, toks := tk7, drawn := dr1 }) l6.1 T6.1 (by rw [List.length_map]; exact l6.len) (by simpa using hTn) fun r h7 dr7 er k7 S7 => ?_)) hdt)) hdb)))
      refine wpAny_bind (wpAny_standAt (wpAny_holding ?_))
      have hkl : kv1.length ≤ 7 := by
        have h1 := R1.length
        rw [h1, less, List.length_map]
        have h2 := List.length_filter_le (fun p : Nat × List Nat => !p.2.isEmpty) (D.take i)
        have h3 := List.length_take_le i D
        omega
      refine wpAny_dictSet_pairs (s := { s with heap := h7, toks := tk7, drawn := dr7 }) (k := nm n) (strKind_is prog w _ _) (S6.at fun o e => k7 S o e) (fun h8 S8 hs8 => wpAny_pure ?_) (Nat.le_trans hkl (by decide))
      have hnew : stored kv1 (nm n) (Value.ref r) = kv1 ++ [(nm n, .ref r)] := by
        refine stored_new ?_
        simp only [valueAt, Option.map_eq_none_iff, List.find?_eq_none]
        intro p hp e
        have e' : p.1 = nm n := by simpa using e
        have h1 : p.1 ∈ kv1.map (·.1) := List.mem_map.mpr ⟨p, hp, rfl⟩
        rw [R1.keys] at h1
        obtain ⟨q, hq, e2⟩ := List.mem_map.mp h1
        obtain ⟨q0, hq0, rfl⟩ := List.mem_map.mp hq
        have hq1 := (List.mem_filter.mp hq0).1
        obtain ⟨q2, hq2, e3⟩ := List.mem_iff_getElem.mp hq1
        rw [List.getElem_take] at e3
        rw [List.length_take] at hq2
        have hiD : i < D.length := by omega
        have hq2D : q2 < D.length := by omega
        have en : D[i].1 = n := by
          rw [List.getElem?_eq_getElem hiD, Option.some.injEq] at eD
          rw [eD]
        have hlt7 : q0.1 < 7 := by
          obtain ⟨n', js', l', e5, _, e6, _⟩ := hr.get (i := q2) (k := (kvs[q2]'(by omega)).1) (v := (kvs[q2]'(by omega)).2) (by rw [List.getElem?_eq_getElem (by omega)])
          rw [List.getElem?_eq_getElem hq2D, Option.some.injEq, e3] at e5
          rw [e5]; exact e6
        have e4 : q0.1 = n := nm_inj hlt7 hn7 (e2.trans e')
        have := List.pairwise_iff_getElem.mp hDn q2 i (by simpa using hq2D) (by simpa using hiD) (by omega)
        rw [List.getElem_map, List.getElem_map, e3, en, e4] at this
        exact this rfl
      rw [hnew] at S8
      have hrC : cenv.locals < r := by rw [er]; exact ns6.lt
      have hrS : r ≠ S := Ne.symm (Nat.ne_of_lt (Nat.lt_trans hSC hrC))
      have r8 : NS prog w h8 r (js.filter fun j => !decide (j ∈ T)) := by
        refine ⟨(SSet.at (h' := h8) ?_ fun o e => (hs8.2 r hrS).trans e), fun j hj => l6.2 j (List.mem_filter.mp hj).1⟩
        have e9 : (js.map nm).filter (fun k => !decide (k ∈ T.map nm)) = (js.filter fun j => !decide (j ∈ T)).map nm := by
          rw [List.filter_map]
          congr 1
          refine List.filter_congr fun j hj => ?_
          show (!decide (nm j ∈ T.map nm)) = !decide (j ∈ T)
          congr 1
          exact decide_eq_decide.mpr (mem_nm (l6.2 j hj) hT.2)
        rw [e9] at S7; exact S7
      have k68 : ∀ b o, b ≠ S → h6.get? b = some o → h8.get? b = some o := fun b o hb e => (hs8.2 b hb).trans (k7 b o e)
      have R8 : SRel prog w h8 kv1 (less T (D.take i)) := R6.above (lo := cenv.locals + 1) (fun k l hm => ab1 k l hm) fun b hb o e => k68 b o (Ne.symm (Nat.ne_of_lt (Nat.lt_trans hSC hb))) e
      have st8 := W.frame (i + 1) _ h8 st6 fun b hb o e => k68 b o (by
        rcases List.mem_cons.mp hb with q | q
        · rw [q]; exact Nat.ne_of_lt hIS
        · rw [List.mem_singleton.mp q]; exact bS d hdb') e
      refine ⟨rfl, kvs.length + 1 - (i + 1), by omega, h8, _, dr7, _, i + 1, _, rfl, st8.1, st8.2, ns6.at' (fun o e => k68 _ o (Ne.symm (Nat.ne_of_lt hSC)) e), S8, ?_, ?_, fun b o hb e => k68 b o (bS b hb) (k06 b o hb e), hlt, rfl⟩
      · rw [et, less, List.filter_append, List.map_append]
        have := R8.snoc hn7 r8
        simpa [hje, less] using this
      · intro k l hm
        rcases List.mem_append.mp hm with q | q
        · exact ab1 k l q
        · simp at q; obtain ⟨_, rfl⟩ := q; exact hrC
  · have hin : i = kvs.length := by omega
    subst hin
    refine W.done _ _ _ ⟨st1, at1⟩ fun h2 tk2 k2 => wpAny_pure ?_
    have k2' : ∀ b o, b ≠ I → h1.get? b = some o → h2.get? b = some o := fun b o hb e => k2 b o (by simpa using hb) e
    rw [hlen, List.take_length] at R1
    exact hR h2 tk2 dr1 m1 kv1 (ns1.at' (fun o e => k2' _ o (Ne.symm (Nat.ne_of_lt hIC)) e)) (S1.at fun o e => k2' S o (Ne.symm (Nat.ne_of_lt hIS)) e)
      (R1.above (lo := cenv.locals + 1) (fun k l hm => ab1 k l hm) fun b hb o e => k2' b o (Ne.symm (Nat.ne_of_lt (Nat.lt_trans hIC hb))) e) ab1 fun b o hb e => k2' b o (bI b hb) (k1 b o hb e)
end
end Mine
namespace Mine
open PySem PySem.W PyProof.Rows PySem.Calls
section
variable {prog : Program} {w : World} {A : Around} {E : Value → Shared → Prop} {s : Shared} {h₀ h h' : Heap} {a d I t : Addr} {D : List (Nat × List Nat)} {kvs : List (Str × Value)} {ys : List Str} {R : Result → Shared → Prop}

theorem dictCompSub {env : Env} {xa xb tn : Str} {pa pb pt pe pv pw pq pr : Pos} {kt : Nat} {iter : Expr} {scope : Scope} {pos : Pos} {c : Addr} {Q : Value → Shared → Prop} (hh : A.handled = none)
    (hclos : closureFor scope env = pure [(tn, c)]) (hcellN : ∀ y ∈ scope.names, y.2 ≠ .cell) (hkind : scope.kind = .function) (hnames : ∀ y ∈ scope.names, y.2 = .local → scope.names.lookup y.1 = some .local)
    (hxa : scope.names.lookup xa = some .local) (hxb : scope.names.lookup xb = some .local) (hxt : ∀ C, (compEnvC scope [(tn, c)] C env).kindOf tn = some .cell) (hab : xa ≠ xb)
    (hda : (xa == ("__debug__" : Str)) = false) (hdb : (xb == ("__debug__" : Str)) = false) (hdt : (tn == ("__debug__" : Str)) = false)
    (h : wpAny (model prog w) A (eval iter env) (fun xv s₁ => ∃ vw d kvs D t T, xv = .ref vw ∧ s₁.heap.IsItemsView vw d ∧ s₁.heap.DictOf (strKind prog w) d kvs ∧ SRel prog w s₁.heap kvs D ∧ D.length ≤ 7 ∧ (D.map (·.1)).Nodup ∧ s₁.heap.IsCell c (some (.ref t)) ∧ NS prog w s₁.heap t T ∧ T ≠ [] ∧
      ∀ nd h' tk dr kvs', s₁.heap.objs.size ≤ nd → (∀ b o, s₁.heap.get? b = some o → h'.get? b = some o) → h'.DictOf (strKind prog w) nd kvs' → SRel prog w h' kvs' (less T D) → (∀ k l, (k, Value.ref l) ∈ kvs' → s₁.heap.objs.size ≤ l) → Q (.ref nd) { s₁ with heap := h', toks := tk, drawn := dr }) No s)
    (hs : ∀ x, foldedSetIterable iter env x = pure x := by intro _; rfl) :
    wpAny (model prog w) A (eval (.DictComp (.Name xa pe) (.BinOp (.Name xb pv) .Sub (.Name tn pw) pq) [⟨.Tuple [.Name xa pa, .Name xb pb] kt pt, iter, [.Name xb pr], 0⟩] scope pos) env) Q No s := by
  rw [arm_eval_DictComp]
  refine wpAny_comprehension_free (use := none) (gs := []) rfl hs hclos hkind hnames (wpAny_mono h (fun xv s₁ h₁ => ?_) fun _ _ f => f)
  obtain ⟨vw, d, kvs, D, t, T, rfl, hv, hD, hr, hDl, hDn, hcell, hT, hTn, hQ⟩ := h₁
  obtain ⟨ep, hat⟩ := hD.dictAt
  have hdl := dict_lt hD
  refine wpAny_pyIter_items hv hat ?_
  refine wpAny_newObj_type (wpAny_newFunctionEnv hcellN (by intro y hy; simp at hy) (fun h3 hns3 hsb3 => ?_) hkind)
  dsimp only at hns3 hsb3 ⊢
  generalize hH1 : s₁.heap.push { cls := .type "dict_itemiterator", data := .fields #[.none, .bool false, .ref d, .int 0 0, .int kvs.length 0, .int ep 0, .none, .none] } = H1 at hns3 hsb3 ⊢
  have z1 : H1.objs.size = s₁.heap.objs.size + 1 := by rw [← hH1, Heap.size_push]
  have hit1 : IsItemIter H1 s₁.heap.objs.size d 0 kvs.length ep .none .none := by rw [← hH1]; exact Heap.get?_push_size _ rfl
  have k1 : ∀ b o, s₁.heap.get? b = some o → H1.get? b = some o := fun b o e => hH1 ▸ Heap.get?_push_of_some _ e
  have hnew : (H1.push { cls := .type "dict", dict := none, data := .dict #[] }).DictOf (strKind prog w) H1.objs.size [] := Heap.DictOf.new H1
  generalize hH2 : H1.push { cls := .type "dict", dict := none, data := .dict #[] } = H2 at hns3 hsb3 hnew ⊢
  have z2 : H2.objs.size = s₁.heap.objs.size + 2 := by rw [← hH2, Heap.size_push, z1]
  have k12 : ∀ b o, H1.get? b = some o → H2.get? b = some o := fun b o e => hH2 ▸ Heap.get?_push_of_some _ e
  have k23 : ∀ b o, H2.get? b = some o → h3.get? b = some o := fun b o e => hsb3.extBut b o (Nat.ne_of_lt (Heap.lt_size e)) (Heap.get?_push_of_some _ e)
  have k03 : ∀ b o, s₁.heap.get? b = some o → h3.get? b = some o := fun b o e => k23 b o (k12 b o (k1 b o e))
  have hold : ∀ k l, (k, Value.ref l) ∈ kvs → l < s₁.heap.objs.size := fun k l hm => by
    obtain ⟨n, js, _, _, _, hl⟩ := hr.mem hm
    exact hl.lt
  have hkn : (compEnvC scope [(tn, c)] H2.objs.size env).scope.kind = .function := by simp [compEnvC, relabel, hkind]
  have hit3 : IsItemIter h3 s₁.heap.objs.size d 0 kvs.length ep .none .none := k23 _ _ (k12 _ _ hit1)
  have hIS : s₁.heap.objs.size < H1.objs.size := by rw [z1]; exact Nat.lt_succ_self _
  have hSC : H1.objs.size < H2.objs.size := by rw [z1, z2]; exact Nat.lt_succ_self _
  refine codeAny_compStart_dict ?_ ?_
  all_goals first
    | refine dictLoop (A := A) (s := { s₁ with heap := h3, toks := _ }) (kvs := kvs) (D := D) (base := s₁.heap.objs.size) (cenv := compEnvC scope [(tn, c)] H2.objs.size env) (T := T) (t := t) (c := c) hh (hr.at fun b _ o e => k03 b o e) hDl hDn
        (lookup_relabel_local hxa) (lookup_relabel_local hxb) (hxt _) hab hkn hda hdb hdt (by simp [compEnvC]) (let ⟨o, e, r⟩ := hcell; ⟨o, k03 _ _ e, r⟩) (hT.at fun o e => k03 _ o e) hTn hold hdl hcell.lt hT.lt (Nat.le_refl _) hIS hSC hit3
        (hat.at' fun o e => k03 _ o e) hns3 (hnew.at fun o e => k23 _ o e) (fun h4 tk4 dr4 m4 kvs4 ns4 S4 R4 ab4 k4 => ?_)
    | refine kcp_self (s := { s₁ with heap := h3, toks := _ }) hit3 ?_
  · refine ⟨m4, ns4, fun h5 hs5 => ?_⟩
    have ab4' : ∀ k l, (k, Value.ref l) ∈ kvs4 → H2.objs.size + 1 ≤ l := fun k l hm => ab4 k l hm
    refine hQ H1.objs.size h5 tk4 dr4 kvs4 (by rw [z1]; exact Nat.le_succ _) (fun b o e => ?_) (S4.at fun o e => (hs5.2 _ (Nat.ne_of_lt hSC)).trans e) (R4.above ab4' fun b hb o e => (hs5.2 b (Ne.symm (Nat.ne_of_lt hb))).trans e)
      (fun k l hm => Nat.le_trans (by rw [z2]; exact Nat.le_succ_of_le (Nat.le_add_right _ _)) (ab4' k l hm))
    have hb := Heap.lt_size e
    exact (hs5.2 b (Nat.ne_of_lt (Nat.lt_trans hb (Nat.lt_trans hIS hSC)))).trans (k4 b o hb (k03 b o e))
  · refine dictLoop (A := A) (s := { s₁ with heap := h3, toks := _ }) (kvs := kvs) (D := D) (base := s₁.heap.objs.size) (cenv := compEnvC scope [(tn, c)] H2.objs.size env) (T := T) (t := t) (c := c) hh (hr.at fun b _ o e => k03 b o e) hDl hDn
        (lookup_relabel_local hxa) (lookup_relabel_local hxb) (hxt _) hab hkn hda hdb hdt (by simp [compEnvC]) (let ⟨o, e, r⟩ := hcell; ⟨o, k03 _ _ e, r⟩) (hT.at fun o e => k03 _ o e) hTn hold hdl hcell.lt hT.lt (Nat.le_refl _) hIS hSC hit3
        (hat.at' fun o e => k03 _ o e) hns3 (hnew.at fun o e => k23 _ o e) (fun h4 tk4 dr4 m4 kvs4 ns4 S4 R4 ab4 k4 => ?_)
    refine ⟨m4, ns4, fun h5 hs5 => ?_⟩
    have ab4' : ∀ k l, (k, Value.ref l) ∈ kvs4 → H2.objs.size + 1 ≤ l := fun k l hm => ab4 k l hm
    refine hQ H1.objs.size h5 tk4 dr4 kvs4 (by rw [z1]; exact Nat.le_succ _) (fun b o e => ?_) (S4.at fun o e => (hs5.2 _ (Nat.ne_of_lt hSC)).trans e) (R4.above ab4' fun b hb o e => (hs5.2 b (Ne.symm (Nat.ne_of_lt hb))).trans e)
      (fun k l hm => Nat.le_trans (by rw [z2]; exact Nat.le_succ_of_le (Nat.le_add_right _ _)) (ab4' k l hm))
    have hb := Heap.lt_size e
    exact (hs5.2 b (Nat.ne_of_lt (Nat.lt_trans hb (Nat.lt_trans hIS hSC)))).trans (k4 b o hb (k03 b o e))
end
end Mine
namespace Mine
open PySem PySem.W PyProof.Rows PySem.Calls

theorem textFrom_le : ∀ (ts : List Str) (k : Nat) (acc : Str) (b : Nat), (∀ t ∈ ts, t.length ≤ b) → (textFrom k acc ts).length ≤ acc.length + ts.length * (b + 2)
  | [], k, acc, b, _ => by show acc.length ≤ _; omega
  | t :: r, k, acc, b, h => by
    have ht := h t (.head _)
    have ih := textFrom_le r (k + 1) (acc ++ (if k > 0 then ", " else "" : String) ++ t) b fun x hx => h x (.tail _ hx)
    show (textFrom (k + 1) (acc ++ (if k > 0 then ", " else "" : String) ++ t) r).length ≤ _
    have h2 : (Str.ofString (if k > 0 then ", " else "" : String)).length ≤ 2 := by
      rw [PySem.ofString_length]; split <;> decide
    have h3 : (acc ++ (if k > 0 then ", " else "" : String) ++ t).length = acc.length + (Str.ofString (if k > 0 then ", " else "" : String)).length + t.length := by
      rw [strLen_append, strLen_append]
    rw [h3] at ih
    rw [List.length_cons, Nat.add_mul, Nat.one_mul]
    omega
theorem listText_le {ts : List Str} {b : Nat} (h : ∀ t ∈ ts, t.length ≤ b) : (listText ts).length ≤ 2 + ts.length * (b + 2) := by
  have := textFrom_le ts 0 "[" b h
  unfold listText
  rw [strLen_append]
  have h1 : (Str.ofString "[").length = 1 := by decide
  have h2 : (Str.ofString "]").length = 1 := by decide
  rw [h1] at this
  rw [h2]; omega
theorem reprNm {i : Nat} (hi : i < 7) : (reprText (nm i)).length ≤ 10 := by
  have : ∀ i < 7, (reprText (nm i)).length ≤ 10 := by decide +kernel
  exact this i hi

section
variable {prog : Program} {w : World} {A : Around} {E : Value → Shared → Prop} {s : Shared} {h₀ h h' : Heap} {a d I l : Addr} {js : List Nat}

theorem nameOfSet {Q : String → Shared → Prop} (hT : s.TypeIs (.ref l) "set") (h : Q "set" s) : wpAny (model prog w) A (typeNameOfWhole (.ref l)) Q E s := by
  unfold typeNameOfWhole shownTypeOf
  refine wpAny_bind (wpAny_bind (wpAny_typeOf hT ?_))
  simp only [show (Value.type "set" == Value.type "builtin_function_or_method") = false by decide, Bool.false_eq_true, if_false]
  refine wpAny_pure ?_
  have e : typeName (.type "set") = pure "set" := by unfold typeName; rw [find?_eq_fast]; kernel_rfl
  rw [show typeNameWhole (.type "set") = typeName (.type "set") from rfl, e]; exact wpAny_pure h

theorem setReprBody {g : List Code} {Q : Str → Shared → Prop} (hg : A.guards = some g) (hu : A.units < cLine) (hno : ∀ v rest kw, Code.builtin "list.__repr__.loop" ⟨v :: rest, kw⟩ ∉ g) (x : NS prog w s.heap l js)
    (hQ : ∀ y h' tk dr, y.length ≤ 1000 → (∀ b o, s.heap.get? b = some o → h'.get? b = some o) → Q y { s with heap := h', toks := tk, drawn := dr }) :
    wpAny (model prog w) A (Builtin.«frozenset.__repr__» ⟨[.ref l], []⟩) (fun fin s' => ∃ y u, fin = .done (.ret (.str y u)) ∧ Q y s') E s := by
  have hT := x.1.typeIs
  unfold Builtin.«frozenset.__repr__» Builtin.Frozenset.slot0
  refine wpAny_bind (wpAny_bind (wpAny_pure ?_))
  refine wpAny_pure ?_
  refine wpAny_bind (nameOfSet hT ?_)
  unfold Builtin.Frozenset.reprRunning
  refine wpAny_bind (wpAny_bind (wpAny_stack fun st _ _ _ => wpAny_pure ?_))
  refine wpAny_ite_split (fun _ => ?_) (fun _ => ?_)
  · refine wpAny_bind (wpAny_rule ?_)
    unfold retStr
    exact wpAny_bind (wpAny_mkStr (wpAny_pure ⟨_, _, rfl, hQ _ s.heap _ s.drawn (by decide +kernel) fun _ _ e => e⟩) (by decide +kernel))
  · obtain ⟨es, ep, t, y, hp, hnd⟩ := id x.1
    have hsz := SRaw.size hp
    rw [List.length_map] at hsz
    have hjl := x.len
    unfold Builtin.Frozenset.sizeOf
    refine wpAny_bind (wpAny_bind (y.entries (wpAny_pure ?_)))
    refine wpAny_ite_split (fun _ => ?_) (fun hne => ?_)
    · refine wpAny_bind (wpAny_rule ?_)
      unfold retStr
      exact wpAny_bind (wpAny_mkStr (wpAny_pure ⟨_, _, rfl, hQ _ s.heap _ s.drawn (by decide +kernel) fun _ _ e => e⟩) (by decide +kernel))
    · unfold setItems
      refine wpAny_bind (wpAny_bind (y.walk fun es' dr hpe => wpAny_pure ?_))
      have hlen : (es'.toList.map (·.2)).length = js.length := by rw [List.length_map, hpe.length_eq, Array.length_toList, hsz]
      refine wpAny_bind (newList_raw (s := { s with drawn := dr }) (fun L h1 eL hL k1 z1 => ?_) (by rw [hlen]; exact Nat.le_trans hjl (by decide)))
      have hke : (keysOf es'.toList).Perm (js.map nm) := (keysOf_perm hpe).trans hp
      have hel : ElemsOf (strKind prog w) es'.toList := y.el.perm hpe
      obtain ⟨nL, hLo⟩ := id hL
      have hLne : es'.toList.map (·.2) ≠ [] := fun q => by
        have := congrArg List.length q
        rw [hlen] at this
        rw [hsz] at hne
        simp at this
        rw [this] at hne
        simp at hne
      obtain ⟨x0, r0, e0⟩ := List.exists_cons_of_ne_nil hLne
      rw [e0] at hLo hlen
      have hts : ∀ t ∈ (keysOf es'.toList).map reprText, t.length ≤ 10 := fun t ht => by
        obtain ⟨k, hk, rfl⟩ := List.mem_map.mp ht
        obtain ⟨j, hj, rfl⟩ := List.mem_map.mp (hke.mem_iff.mp hk)
        exact reprNm (x.2 j hj)
      have hkl : (keysOf es'.toList).length = js.length := by rw [hke.length_eq, List.length_map]
      have hle := listText_le hts
      rw [List.length_map, hkl] at hle
      have hbig : js.length * (10 + 2) ≤ 7 * (10 + 2) := Nat.mul_le_mul_right _ hjl
      refine wpAny_bind (wpAny_holding ?_)
      unfold pyRepr
      refine wpAny_bind (wpAny_pyReprObj_list (s := { s with heap := h1, drawn := dr }) (x := x0) (l := r0) (ts := (keysOf es'.toList).map reprText) ⟨_, hLo, rfl⟩ hg (fun v rest kw hm => absurd hm (hno v rest kw)) hu hLo rfl ?_ ?_ (fun h2 u tk2 k2 => ?_) ?_)
      · rw [List.length_map, hkl, List.size_toArray]; exact hlen.symm
      · intro i z hz
        have hz' : (es'.toList.map (·.2))[i]? = some z := by rw [e0]; simpa using hz
        rw [List.getElem?_map, Option.map_eq_some_iff] at hz'
        obtain ⟨e, he, rfl⟩ := hz'
        obtain ⟨tk, ev⟩ := keysOf_at hel he
        refine ⟨reprText (keyOf e), by rw [List.getElem?_map, keysOf, List.getElem?_map, he]; rfl, ?_⟩
        rw [ev]
        refine ReprIs.str _ _ (Nat.le_trans (hts _ (List.mem_map.mpr ⟨keyOf e, List.mem_map.mpr ⟨e, List.mem_of_getElem? he, rfl⟩, rfl⟩)) (by decide))
      · wp_delta
        refine wpAny_pure ?_
        have hbl : (Str.ofString "{" ++ (⟨(listText ((keysOf es'.toList).map reprText)).cps.extract 1 ((listText ((keysOf es'.toList).map reprText)).cps.size - 1)⟩ : Str) ++ Str.ofString "}").length ≤ 1000 := by
          rw [strLen_append, strLen_append]
          have h1 : (Str.ofString "{").length = 1 := by decide
          have h2 : (Str.ofString "}").length = 1 := by decide
          have h3 : (⟨(listText ((keysOf es'.toList).map reprText)).cps.extract 1 ((listText ((keysOf es'.toList).map reprText)).cps.size - 1)⟩ : Str).length ≤ (listText ((keysOf es'.toList).map reprText)).length := by
            show (Array.extract _ _ _).size ≤ (listText ((keysOf es'.toList).map reprText)).cps.size
            rw [Array.size_extract]; omega
          rw [h1, h2]; omega
        refine wpAny_bind (wpAny_typeOf (T := "set") (by obtain ⟨o, ho, hex, _⟩ := y.obj; exact ⟨o, k2 _ _ (k1 _ _ ho), hex.1⟩) ?_)
        rw [if_pos (by decide)]
        unfold retStr
        exact wpAny_bind (wpAny_mkStr (wpAny_pure ⟨_, _, rfl, hQ _ h2 _ dr hbl fun b o e => k2 b o (k1 b o e)⟩) (Nat.le_trans hbl (by decide)))
      · exact Nat.le_trans hle (Nat.le_trans (Nat.add_le_add_left hbig 2) (by decide))
end
end Mine
namespace Mine
open PySem PySem.W PyProof.Rows PySem.Calls
section
variable {prog : Program} {w : World} {A : Around} {E : Value → Shared → Prop} {s : Shared} {h₀ h h' : Heap} {a d I l T : Addr} {js : List Nat}

theorem callSetRepr {g : List Code} {Q : Value → Shared → Prop} (hg : A.guards = some g) (hu : A.units + 1 < cLine) (hno : ∀ v rest kw, Code.builtin "list.__repr__.loop" ⟨v :: rest, kw⟩ ∉ g) (x : NS prog w s.heap l js)
    (hQ : ∀ y u h' tk dr, y.length ≤ 1000 → (∀ b o, s.heap.get? b = some o → h'.get? b = some o) → Q (.str y u) { s with heap := h', toks := tk, drawn := dr }) :
    wpAny (model prog w) A (call (.builtin "set.__repr__") [.ref l]) Q E s := by
  refine wpAny_call_entry PySem.F.slot_set_repr x.1.typeIs entry_set_repr ?_ (PySem.F.args_set_repr_1 _)
  refine wpAny_mono (setReprBody (A := A.in1) (Q := fun y s' => ∀ u, Q (.str y u) s') hg hu hno x fun y h' tk dr hy hk u => hQ y u h' tk dr hy hk) (fun fin s' hf => ?_) fun _ _ e => e
  obtain ⟨y, u, rfl, hq⟩ := hf
  exact ⟨_, rfl, hq u⟩

theorem reprUnderSet {b : Nat} {g : List Code} {Q : Str → Shared → Prop} (hb : b ≤ 100000) (hg : A.guards = some g) (hu : A.units + 1 < cLine) (hno : ∀ v rest kw, Code.builtin "list.__repr__.loop" ⟨v :: rest, kw⟩ ∉ g) (x : NS prog w s.heap l js)
    (hQ : ∀ y h' tk dr, y.length ≤ 1000 → (∀ b o, s.heap.get? b = some o → h'.get? b = some o) → Q y { s with heap := h', toks := tk, drawn := dr }) :
    wpAny (model prog w) A (pyReprUnder b (.ref l)) Q E s := by
  refine wpAny_pyReprUnder_ref (Nat.le_trans hb (by decide)) ?_
  unfold pyReprObjUnder pyReprObjBy
  refine wpAny_bind (wpAny_cRoomFor (Nat.lt_of_succ_lt hu) ?_)
  refine wpAny_bind (wpAny_specialOf (name := Str.ofString "__repr__") x.1.typeIs PySem.F.slot_set_repr.lookup ?_)
  refine wpAny_bind (m := callSpecialIfBoundBy? _ (.ref l) (Str.ofString "__repr__")) (wpAny_callSpecialIfBoundBy?_slotG (name := Str.ofString "__repr__") x.1.typeIs PySem.F.slot_set_repr.toG ?_)
  show wpAny _ _ (call (.builtin "set.__repr__") [.ref l]) _ _ _
  refine callSetRepr hg hu hno x fun y u h' tk dr hy hk => ?_
  exact wpAny_bind (wpAny_isInstance (T := "str") (b := true) rfl isSubtype_str_str (wpAny_pure ⟨y, u, rfl, hQ y h' tk dr hy hk⟩))

theorem wpAny_under_guard {c : Code} (A : Around) (g : List Code) (hg : A.guards = some g) : (A.under c).guards = some (c.guards ++ g) := by
  show pushGuards c.guards A.guards = _
  rw [hg, pushGuards_eq]; rfl

/-- repr of a pair of a name and its set -/
theorem reprPair {n : Nat} {tk : Tok} {Q : Value → Shared → Prop} (hn : n < 7) (hT : s.heap.get? T = some { cls := .type "tuple", data := .seq #[.str (nm n) tk, .ref l] }) (hg : A.guards = some []) (hu : A.units + 20 < cLine) (x : NS prog w s.heap l js)
    (hQ : ∀ y u h' tk dr, y.length ≤ 3000 → (∀ b o, s.heap.get? b = some o → h'.get? b = some o) → Q (.str y u) { s with heap := h', toks := tk, drawn := dr }) :
    wpAny (model prog w) A (call (.builtin "repr") [.ref T]) Q E s := by
  have hTy : s.TypeIs (.ref T) "tuple" := ⟨_, hT, rfl⟩
  refine call_function_entry PySem.F.kind_repr PySem.F.plain_repr PySem.F.entry_repr (PySem.F.args_repr1 _) ?_
  unfold Builtin.«repr»
  refine wpAny_bind (m := oneArg "repr" _) (wpAny_pure ?_)
  refine wpAny_bind (wpAny_cRoomFor (show A.units + 1 < cLine by omega) ?_)
  refine wpAny_bind (wpAny_specialOf (name := Str.ofString "__repr__") hTy PySem.F.slot_tuple_repr.lookup ?_)
  refine wpAny_bind (m := callSpecialIfBound? _ (Str.ofString "__repr__")) (wpAny_callSpecialIfBound?_slotG (name := Str.ofString "__repr__") hTy PySem.F.slot_tuple_repr ?_)
  refine wpAny_call (codeAny_call_builtin_own (Code.quiet_builtin _ (by decide +kernel)) PySem.F.entry_tuple_repr (PySem.F.slot_tuple_repr.check _ _ _ _ _ _ _ _ hTy (PySem.F.args_tuple_repr_1 _) ?_))
  have hgg : (A.in1.under (Code.builtin "tuple.__repr__" ⟨[.ref T], []⟩)).guards = some ((Code.builtin "tuple.__repr__" ⟨[.ref T], []⟩).guards ++ []) := wpAny_under_guard A.in1 [] hg
  have hgl : ((Code.builtin "tuple.__repr__" ⟨[.ref T], []⟩).guards ++ []) = [Code.builtin "tuple.__repr__" ⟨[.ref T], []⟩] := by
    have : (Code.builtin "tuple.__repr__" ⟨[Value.ref T], []⟩).isGuard = true := by show guardIds.contains "tuple.__repr__" = true; decide
    rw [Code.guards, this]; rfl
  rw [hgl] at hgg
  refine wpOwn_of_wpAny ?_
  have huu : (A.in1.under (Code.builtin "tuple.__repr__" ⟨[.ref T], []⟩)).units + 10 < cLine := by
    show A.in1.units + (Code.builtin "tuple.__repr__" ⟨[.ref T], []⟩).cUnits + 10 < cLine
    have : (Code.builtin "tuple.__repr__" ⟨[Value.ref T], []⟩).cUnits ≤ 5 := by
      show 1 + 3 * (Code.builtin "tuple.__repr__" ⟨[Value.ref T], []⟩).frames ≤ 5
      have : (Code.builtin "tuple.__repr__" ⟨[Value.ref T], []⟩).frames ≤ 1 := by
        show _ ≤ 1
        simp [Code.frames]
        split <;> decide
      omega
    show A.units + 1 + _ + 10 < cLine
    omega
  generalize hA' : A.in1.under (Code.builtin "tuple.__repr__" ⟨[.ref T], []⟩) = A' at hgg huu ⊢
  show wpAny _ A' (Builtin.tupleReprAt 0 ⟨[.ref T], []⟩) _ _ _
  rw [tuple_repr_tree, tupleReprUnderWay_eq]
  have fin : ∀ y u h' tk dr, y.length ≤ 3000 → (∀ b o, s.heap.get? b = some o → h'.get? b = some o) → wpAny (model prog w) A.in1 (do
      if ← isInstance (.str y u) (.type "str") then ret (.str y u)
      else rule "repr.not-str"; raiseError "TypeError" s!"__repr__ returned non-string (type {← typeNameOf (.str y u)})") (fun fin s' => ∃ r, fin = .done (.ret r) ∧ Q r s') E { s with heap := h', toks := tk, drawn := dr } := by
    intro y u h' tk dr hy hk
    refine wpAny_bind (wpAny_isInstance (T := "str") (b := true) rfl isSubtype_str_str ?_)
    rw [if_pos rfl]
    exact wpAny_pure ⟨_, rfl, hQ y u h' tk dr hy hk⟩
  refine wpAny_bind (wpAny_bind (wpAny_stack fun st _ _ _ => wpAny_pure ?_))
  refine wpAny_ite_split (fun _ => ?_) (fun _ => ?_)
  · refine wpAny_bind (wpAny_rule ?_)
    unfold retStr
    refine wpAny_bind (wpAny_mkStr (wpAny_pure ?_) (by decide +kernel))
    exact fin _ _ s.heap _ s.drawn (by decide +kernel) fun _ _ e => e
  · unfold tupleReprRest Builtin.Tuple.tupleItemsOf
    refine wpAny_bind (wpAny_bind (wpAny_seqItems hT rfl (wpAny_pure ?_)))
    rw [← Array.forIn_toList]
    refine wpAny_bind ?_
    simp only [List.forIn_cons, List.forIn_nil]
    unfold tupBody
    have hs : ReprIs prog w (.str (nm n) tk) (reprText (nm n)) := ReprIs.str _ _ (Nat.le_trans (reprNm hn) (by decide))
    refine wpAny_bind (wpAny_bind (hs 1 (Nat.le_trans (Nat.add_le_add_left (reprNm hn) 1) (by decide)) _ _ _ _ fun tk2 => ?_))
    refine wpAny_pure ?_
    dsimp only
    have hrt := reprNm hn
    generalize reprText (nm n) = rt at hrt ⊢
    generalize hB : 0 + (rt.length + 2) = B
    have hB' : B + 1 ≤ 100000 := by omega
    refine wpAny_bind (wpAny_bind (reprUnderSet (s := { s with toks := tk2 }) (g := [Code.builtin "tuple.__repr__" ⟨[.ref T], []⟩]) hB' hgg (by omega) (fun v rest kw hm => by simp at hm) x fun y h' tk3 dr3 hy hk => ?_))
    refine wpAny_pure (wpAny_pure ?_)
    have hl : (Str.ofString "(" ++ Str.join (Str.ofString ", ") [rt, y] ++ Str.ofString ")").length ≤ 3000 := by
      rw [strLen_append, strLen_append]
      have h1 : (Str.ofString "(").length = 1 := by decide
      have h2 : (Str.ofString ")").length = 1 := by decide
      have h3 : (Str.join (Str.ofString ", ") [rt, y]).length = rt.length + 2 + y.length := by
        show (rt ++ Str.ofString ", " ++ Str.join (Str.ofString ", ") [y]).length = _
        rw [strLen_append, strLen_append]; rfl
      omega
    show wpAny _ _ (retStr (Str.ofString "(" ++ Str.join (Str.ofString ", ") [rt, y] ++ Str.ofString ")")) _ _ _
    unfold retStr
    refine wpAny_bind (wpAny_mkStr (wpAny_pure ?_) (Nat.le_trans hl (by decide)))
    exact fin _ _ h' _ dr3 hl hk
end
end Mine
namespace Mine
open PySem PySem.W PyProof.Rows PySem.Calls

def Adv (C I : Addr) (s₀ s : Shared) : Prop := ∃ h' tk dr, s = { s₀ with heap := h', toks := tk, drawn := dr } ∧ ∀ b o, b ≠ C → b ≠ I → s₀.heap.get? b = some o → h'.get? b = some o
theorem Adv.refl (C I : Addr) (s : Shared) : Adv C I s s := ⟨s.heap, s.toks, s.drawn, rfl, fun _ _ _ _ e => e⟩
theorem Adv.step {C I : Addr} {s₀ s : Shared} (x : Adv C I s₀ s) {h' : Heap} {tk : Nat} {dr : Drawn} (hk : ∀ b o, b ≠ C → b ≠ I → s.heap.get? b = some o → h'.get? b = some o) : Adv C I s₀ { s with heap := h', toks := tk, drawn := dr } := by
  obtain ⟨h₁, tk₁, dr₁, rfl, hk₁⟩ := x
  exact ⟨h', tk, dr, rfl, fun b o q1 q2 e => hk b o q1 q2 (hk₁ b o q1 q2 e)⟩
def repProto (C I S : Addr) : Protocol := fun _ s₀ v s kap => (∃ y u, v = .str y u ∧ y.length ≤ 3000) ∧ Adv C I s₀ s ∧
  ∀ s'' : Shared, (∀ b o, b ≠ S → s.heap.get? b = some o → s''.heap.get? b = some o) → S < s''.heap.objs.size → kap (.send .none) s''
def repEnd (C I : Addr) : GenEnd := fun n s₀ r s₁ => r = .ok .next ∧ (n = 0 ∧ Adv C I s₀ s₁)

/-- the iterator over the items, its tuple kept by who took it, apart from W -/
def ItW (h : Heap) (it d : Addr) (W : List Addr) (i n ep : Nat) : Prop :=
  (i = 0 ∧ ∃ ok ov, IsItemIter h it d 0 n ep ok ov) ∨ ∃ ok ov a f oa, KdxIt h it d i n ep ok ov a f ∧ h.get? a = some oa ∧ a ≠ it ∧ a ∉ W
theorem ItW.keep {h h' : Heap} {it d : Addr} {W : List Addr} {i n ep : Nat} (x : ItW h it d W i n ep) (hk : ∀ b o, b ∉ W → h.get? b = some o → h'.get? b = some o) (hI : it ∉ W) : ItW h' it d W i n ep := by
  rcases x with ⟨e, ok, ov, hit⟩ | ⟨ok, ov, a, f, oa, hit, ha, hai, haS⟩
  · exact .inl ⟨e, ok, ov, hk _ _ hI hit⟩
  · exact .inr ⟨ok, ov, a, f, oa, hk _ _ hI hit, hk _ _ haS ha, hai, haS⟩
theorem itw_item {prog : Program} {w : World} {A : Around} {E : Value → Shared → Prop} {s : Shared} {it d : Addr} {W : List Addr} {i ep : Nat} {kvs : List (Str × Value)} {k : Str} {v : Value} {Q : Option Value → Shared → Prop} (hst : ItW s.heap it d W i kvs.length ep) (hW : ∀ b ∈ W, b < s.heap.objs.size)
    (hm : s.heap.DictAt (strKind prog w) d kvs ep) (hx : kvs[i]? = some (k, v))
    (hQ : ∀ key h', (strKind prog w).is k key = true → ItW h' it d W (i + 1) kvs.length ep → h'.get? s.heap.objs.size = some { cls := .type "tuple", data := .seq #[key, v] } → h'.objs.size = s.heap.objs.size + 1 →
      (∀ b o, b ≠ it → s.heap.get? b = some o → h'.get? b = some o) → Q (some (.ref s.heap.objs.size)) { s with heap := h' }) :
    wpAny (model prog w) A (pyNext (.ref it)) Q E s := by
  rcases hst with ⟨rfl, ok, ov, hit⟩ | ⟨ok, ov, a, f, oa, hit, ha, hai, haS⟩
  · exact wpAny_pyNext_items_item hit hm hx fun key h' hk hit' ht hz hkeep => hQ key h' hk (.inr ⟨key, v, _, false, _, hit', ht, Nat.ne_of_gt (Heap.lt_size hit), fun hm => Nat.lt_irrefl _ (hW _ hm)⟩) ht hz hkeep
  · exact kdx_next_out hit ha hai hm hx fun key h' hk hit' ht hz hkeep => hQ key h' hk (.inr ⟨ok, ov, a, true, oa, hit', hkeep a oa hai ha, hai, haS⟩) ht hz hkeep
theorem itw_done {prog : Program} {w : World} {A : Around} {E : Value → Shared → Prop} {s : Shared} {it d : Addr} {W : List Addr} {i ep : Nat} {kvs : List (Str × Value)} {Q : Option Value → Shared → Prop} (hh : A.handled = none) (hst : ItW s.heap it d W i kvs.length ep) (hm : s.heap.DictAt (strKind prog w) d kvs ep) (hx : kvs[i]? = none)
    (hQ : ∀ h', Heap.ExtBut it s.heap h' → Q none { s with heap := h' }) : wpAny (model prog w) A (pyNext (.ref it)) Q E s := by
  rcases hst with ⟨rfl, ok, ov, hit⟩ | ⟨ok, ov, a, f, oa, hit, _, _, _⟩
  · exact wpAny_pyNext_items_end hh hit hm hx hQ
  · exact kdx_end_out hh hit hm hx hQ

/-- what the generator stands on -/
structure RepAt (prog : Program) (w : World) (h₀ : Heap) (C I S d : Addr) (kvs : List (Str × Value)) (D : List (Nat × List Nat)) (ep i : Nat) (s : Shared) : Prop where
  sv : Sv h₀ s.heap
  rel : SRel prog w s.heap kvs D
  dic : s.heap.DictAt (strKind prog w) d kvs ep
  it : ItW s.heap I d [C, S] i kvs.length ep
  ns : ∃ m, s.heap.Ns C m
  lt : S < s.heap.objs.size

theorem SRel.within {prog : Program} {w : World} {h h' : Heap} {kvs : List (Str × Value)} {D : List (Nat × List Nat)} (x : SRel prog w h kvs D) (hk : ∀ l ∈ refsOf kvs, ∀ o, h.get? l = some o → h'.get? l = some o) : SRel prog w h' kvs D := by
  induction x with
  | nil => exact .nil
  | cons hn a _ ih => exact .cons hn (a.at fun o e => hk _ (refsOf_mem.mpr ⟨_, .head _⟩) o e) (ih fun l hl o e => hk l (let ⟨k, hm⟩ := refsOf_mem.mp hl; refsOf_mem.mpr ⟨k, .tail _ hm⟩) o e)

section
variable {prog : Program} {w : World} {A : Around} {E : Value → Shared → Prop} {s : Shared} {h₀ h h' : Heap} {C I S d : Addr} {kvs : List (Str × Value)} {D : List (Nat × List Nat)} {ep : Nat}

theorem seg_rep {x : Str} {px pr pa pc : Pos} {iter : Expr} {scope : Scope} {pos : Pos} {env : Env} {code : Value} (hh : A.handled = none) (hg : A.guards = some []) (hu : A.units + 40 < cLine)
    (hx : scope.names.lookup x = some .local) (hxr : scope.names.lookup (Str.ofString "repr") = some .globalImplicit) (hkind : scope.kind = .function) (hco : scope.isCoroutine = false) (hdx : (x == ("__debug__" : Str)) = false) (hgl : env.globals = mainGlobals)
    (hCI : C ≠ I) (hCS : C ≠ S) (hIS : I ≠ S) (hC0 : h₀.get? C = none) (hI0 : h₀.get? I = none) (hS0 : h₀.get? S = none) (hdI : d ≠ I) (hdC : d ≠ C) (hdS : d ≠ S)
    (hrI : I ∉ refsOf kvs) (hrC : C ∉ refsOf kvs) (hrS : S ∉ refsOf kvs) :
    ∀ (k i : Nat) (s₀ s : Shared), kvs.length - i = k → i ≤ kvs.length → RepAt prog w h₀ C I S d kvs D ep i s → Adv C I s₀ s →
      Seg (model prog w) A (repEnd C I) (repProto C I S) (kvs.length - i) s₀
        (.compLoop (.GeneratorExp (.Call (.Name "repr" pr) [.Name x pa] [] pc) [⟨.Name x px, iter, [], 0⟩] scope pos) 0 (.ref I) .none (genEnv scope [] C code builtinsNs env))
        ((model prog w).den (.compLoop (.GeneratorExp (.Call (.Name "repr" pr) [.Name x pa] [] pc) [⟨.Name x px, iter, [], 0⟩] scope pos) 0 (.ref I) .none (genEnv scope [] C code builtinsNs env))) [] s := by
  have hh' : (A.over (.compLoop (.GeneratorExp (.Call (.Name "repr" pr) [.Name x pa] [] pc) [⟨.Name x px, iter, [], 0⟩] scope pos) 0 (.ref I) .none (genEnv scope [] C code builtinsNs env)) []).handled = none := hh
  have hgo : (A.over (.compLoop (.GeneratorExp (.Call (.Name "repr" pr) [.Name x pa] [] pc) [⟨.Name x px, iter, [], 0⟩] scope pos) 0 (.ref I) .none (genEnv scope [] C code builtinsNs env)) []).guards = some [] := hg
  have huo : (A.over (.compLoop (.GeneratorExp (.Call (.Name "repr" pr) [.Name x pa] [] pc) [⟨.Name x px, iter, [], 0⟩] scope pos) 0 (.ref I) .none (genEnv scope [] C code builtinsNs env)) []).units + 30 < cLine := by
    show A.units + 0 + 3 * _ + 30 < cLine
    have : (Code.compLoop (.GeneratorExp (.Call (.Name "repr" pr) [.Name x pa] [] pc) [⟨.Name x px, iter, [], 0⟩] scope pos) 0 (.ref I) .none (genEnv scope [] C code builtinsNs env)).frames ≤ 1 := by
      simp only [Code.frames]; split <;> decide
    omega
  intro k
  induction k with
  | zero =>
    intro i s₀ s hk hi st hsince
    have hin : i = kvs.length := by omega
    subst hin
    show Seg _ A _ _ _ s₀ _ ((compTurn (.GeneratorExp (.Call (.Name "repr" pr) [.Name x pa] [] pc) [⟨.Name x px, iter, [], 0⟩] scope pos) 0 (.ref I) .none (genEnv scope [] C code builtinsNs env)).onRaise (leaving (genEnv scope [] C code builtinsNs env))) [] s
    rw [compTurn_gen, Sem.onRaise_eq_wrap]
    refine seg_bind_wrap (wpAny_standAt ?_)
    refine seg_bind_wrap (itw_done hh' st.it st.dic (by simp) fun h' he' => ?_)
    exact seg_end (.ok .next) ⟨rfl, by omega, hsince.step fun b o _ q2 e => he' b o q2 e⟩
  | succ k ih =>
    intro i s₀ s hk hi st hsince
    have hlt : i < kvs.length := by omega
    obtain ⟨m, hns⟩ := st.ns
    show Seg _ A _ _ _ s₀ _ ((compTurn (.GeneratorExp (.Call (.Name "repr" pr) [.Name x pa] [] pc) [⟨.Name x px, iter, [], 0⟩] scope pos) 0 (.ref I) .none (genEnv scope [] C code builtinsNs env)).onRaise (leaving (genEnv scope [] C code builtinsNs env))) [] s
    rw [compTurn_gen, Sem.onRaise_eq_wrap]
    refine seg_bind_wrap (wpAny_standAt ?_)
    obtain ⟨⟨kk, vv⟩, hkv⟩ : ∃ p, kvs[i]? = some p := ⟨kvs[i], by simp [hlt]⟩
    obtain ⟨n, js, l, eD, rfl, hn7, rfl, hl⟩ := st.rel.get hkv
    have hlr : l ∈ refsOf kvs := refsOf_mem.mpr ⟨_, List.mem_of_getElem? hkv⟩
    refine seg_bind_wrap (itw_item st.it (fun b hb => by
      rcases List.mem_cons.mp hb with q | q
      · rw [q]; exact hns.lt
      · rw [List.mem_singleton.mp q]; exact st.lt) st.dic hkv fun key h1 hkey it1 hT1 z1 k1 => ?_)
    obtain ⟨tk, rfl⟩ := strKind_isStr hkey
    refine seg_bind_wrap (wpAny_of_eq (show letOwnedTupleGo (.Name x px) (.ref I) (.ref s.heap.objs.size) = pure () from rfl) ?_)
    refine seg_bind_wrap (wpAny_assign_Name (wpAny_storeName_local (s := { s with heap := h1 }) hx (hns.at' fun o e => k1 _ o hCI e) (fun h2 hns2 hs2 => ?_) (by simp [genEnv, hkind])))
    have k2 : ∀ b o, b ≠ C → b ≠ I → s.heap.get? b = some o → h2.get? b = some o := fun b o q1 q2 e => (hs2.2 b q1).trans (k1 b o q2 e)
    have sv2 : Sv h₀ h2 := st.sv.off [C, I] (fun b hb => by
      rcases List.mem_cons.mp hb with q | q
      · rw [q]; exact hC0
      · rw [List.mem_singleton.mp q]; exact hI0) fun b o hb e => k2 b o (fun q => hb (q ▸ .head _)) (fun q => hb (q ▸ .tail _ (.head _))) e
    have hTC : s.heap.objs.size ≠ C := Ne.symm (Nat.ne_of_lt hns.lt)
    have hT2 : h2.get? s.heap.objs.size = some { cls := .type "tuple", data := .seq #[.str (nm n) tk, .ref l] } := (hs2.2 _ hTC).trans hT1
    have l2 : NS prog w h2 l js := hl.at fun o e => k2 l o (fun q => hrC (q ▸ hlr)) (fun q => hrI (q ▸ hlr)) e
    refine seg_bind_wrap (wpAny_tests_nil ?_)
    simp only [if_true]
    have hy : ∀ v, yieldOut (genEnv scope [] C code builtinsNs env) v = yieldValue v := fun v => by
      have : (genEnv scope [] C code builtinsNs env).scope.isCoroutine = false := hco
      simp only [yieldOut, this, Bool.false_eq_true, if_false]
    simp only [hy]
    rw [Sem.bind_eq_wrap', Sem.bind_eq_wrap', Sem.wrap_wrap, Sem.wrap_wrap]
    refine seg_wrap (wpAny_Call_NameR (nmB (s := { s with heap := h2, toks := _ }) sv2.gn.glo (fun _ _ k => ⟨k.repr0, k.repr1⟩) (PyProof.Rows.callWith_builtin1 (spliced_more (wpAny_Name (wpAny_loadName_local (s := { s with heap := h2, toks := _ }) hkind hx hns2 (by simp) (spliced_none
      (reprPair (s := { s with heap := h2, toks := _ }) hn7 hT2 hgo (by omega) l2 fun y u h3 tk3 dr3 hy3 k3 => ?_))) hdx))) hgl rfl hkind hxr))
    have k13 : ∀ b o, b ≠ C → b ≠ I → s.heap.get? b = some o → h3.get? b = some o := fun b o q1 q2 e => k3 b o (k2 b o q1 q2 e)
    have en : kvs.length - i = (kvs.length - (i + 1)) + 1 := by omega
    rw [en]
    refine seg_at (seg_yield rfl rfl rfl ⟨⟨y, u, rfl, hy3⟩, hsince.step k13, fun s'' hal hSl => ?_⟩)
    have st1 : RepAt prog w h₀ C I S d kvs D ep (i + 1) s'' := by
      have k1s : ∀ b o, b ≠ C → b ≠ I → b ≠ S → s.heap.get? b = some o → s''.heap.get? b = some o := fun b o q1 q2 q3 e => hal b o q3 (k13 b o q1 q2 e)
      refine ⟨?_, ?_, st.dic.at' fun o e => k1s d o hdC hdI hdS e, ?_, ⟨_, (hns2.keeps k3).at' fun o e => hal _ o hCS e⟩, hSl⟩
      · exact st.sv.off [C, I, S] (fun b hb => by
          rcases List.mem_cons.mp hb with q | q
          · rw [q]; exact hC0
          · rcases List.mem_cons.mp q with q | q
            · rw [q]; exact hI0
            · rw [List.mem_singleton.mp q]; exact hS0) fun b o hb e => k1s b o (fun q => hb (q ▸ .head _)) (fun q => hb (q ▸ .tail _ (.head _))) (fun q => hb (q ▸ .tail _ (.tail _ (.head _)))) e
      · have hin : ∀ l ∈ refsOf kvs, l ≠ C ∧ l ≠ I ∧ l ≠ S := fun l hl => ⟨fun q => hrC (q ▸ hl), fun q => hrI (q ▸ hl), fun q => hrS (q ▸ hl)⟩
        exact st.rel.within fun l hl o e => k1s l o (hin l hl).1 (hin l hl).2.1 (hin l hl).2.2 e
      · have hIW : I ∉ [C, S] := fun hm => by
          rcases List.mem_cons.mp hm with q | q
          · exact hCI q.symm
          · exact hIS (List.mem_singleton.mp q)
        have it2 := it1.keep (h' := h2) (fun b o hb e => (hs2.2 b (fun q => hb (q ▸ .head _))).trans e) hIW
        have it3 := it2.keep (h' := h3) (fun b o _ e => k3 b o e) hIW
        exact it3.keep (fun b o hb e => hal b o (fun q => hb (q ▸ .tail _ (.head _))) e) hIW
    have sn : Adv C I s'' s'' := Adv.refl _ _ _
    exact seg_again rfl (ih (i + 1) s'' s'' (by omega) hlt st1 sn)
end
end Mine
namespace Mine
open PySem PySem.W PyProof.Rows PySem.Calls

/-- a state moved on: only W changed, one generator, the rest as it was -/
structure MvG (W : List Addr) (g : Nat) (s s' : Shared) : Prop where
  heap : ∀ b o, b ∉ W → s.heap.get? b = some o → s'.heap.get? b = some o
  gens : GenOnlyQ g s.gens s'.gens
  os : s'.os = s.os
theorem MvG.trans {W : List Addr} {g : Nat} {a b c : Shared} (x : MvG W g a b) (y : MvG W g b c) : MvG W g a c :=
  ⟨fun q o hq e => y.heap q o hq (x.heap q o hq e), x.gens.trans y.gens, y.os.trans x.os⟩

def shortStrs (acc : Array Value) : Prop := ∀ v ∈ acc.toList, ∃ y u, v = .str y u ∧ y.length ≤ 3000

section
variable {prog : Program} {w : World} {A : Around} {E : Value → Shared → Prop} {s : Shared} {a C I S : Addr} {g n : Nat} {R : Result → Shared → Prop}

/-- the generator of short strs, n - i of them left -/
def RepGen (prog : Program) (w : World) (A : Around) (a C I S : Addr) (g n i : Nat) (s : Shared) : Prop :=
  s.heap.IsGen a g ∧ s.heap.NoLimit ∧ ∃ gs, s.gens[g]? = some gs ∧ ∀ s'' : Shared, (∀ b o, b ≠ S → s.heap.get? b = some o → s''.heap.get? b = some o) → S < s''.heap.objs.size →
    gs.Goes (model prog w) A (repEnd C I) (repProto C I S) (n - i) (.send .none) s''

theorem repLoop (hh : A.handled = none) (hroom : A.depth < recursionLimit) (haC : a ≠ C) (haI : a ≠ I) (haS : a ≠ S) (hCS : C ≠ S) (hIS : I ≠ S) (hcC : cStatics ≠ C) (hcI : cStatics ≠ I) (hcS : cStatics ≠ S) (res : Value) (hn : n ≤ 100) :
    ∀ (k i : Nat) (s : Shared) (acc : Array Value) (c : Nat), n - i = k → i ≤ n → RepGen prog w A.in1.in1 a C I S g n i s → s.heap.get? S = some { cls := .type "list", dict := none, data := .seq acc c, slots := #[] } → acc.size = i → shortStrs acc →
      (∀ s' acc' c', MvG [C, I, S] g s s' → s'.heap.get? S = some { cls := .type "list", dict := none, data := .seq acc' c', slots := #[] } → acc'.size = n → shortStrs acc' → R (.ok (.ret res)) s') →
      codeAny (model prog w) A (.builtin "list.extend.loop" ⟨[.ref S, .ref a, res], []⟩) R s := by
  intro k
  induction k with
  | zero =>
    intro i s acc c hk hi hst hS hsz hacc hR
    have hin : i = n := by omega
    subst hin
    refine codeAny_builtin PySem.F.entry_extend_loop ?_
    rw [Around.under_plainId PySem.F.plain_extend_loop _]
    show wpAny _ A.in1 (pyNext (.ref a) >>= _) _ _ s
    obtain ⟨hgen, hlim, gs, hgs, hgo⟩ := hst
    have hSl : S < s.heap.objs.size := Heap.lt_size hS
    rw [Nat.sub_self] at hgo
    refine wpAny_bind (wpAny_pyNext_genexpQ (A := A.in1) (P := fun m s₀ s₁ => m = 0 ∧ Adv C I s₀ s₁) hh hlim hroom hgen hgs (hgo (s.setGen g .running) (fun _ _ _ e => e) hSl) (fun v s₁ gs' hb hv => ?_) (fun s₁ hp h' hk' => ?_))
    · obtain ⟨_, ⟨h1, tk1, dr1, rfl, k1⟩, hkap⟩ := hv
      exact False.elim (hkap _ (fun _ _ _ e => e) (Heap.lt_size (k1 S _ (Ne.symm hCS) (Ne.symm hIS) hS)))
    · obtain ⟨_, h1, tk1, dr1, rfl, k1⟩ := hp
      refine wpAny_pure (hR _ acc c ⟨fun b o hb e => hk' b o (k1 b o (fun q => hb (q ▸ .head _)) (fun q => hb (q ▸ .tail _ (.head _))) e), GenOnlyQ.of ((GenOnly.setGen s g .running).trans (GenOnly.setGen _ g .finished)) (setGen_self (gs := .running) (setGen_self hgs)) rfl, rfl⟩ ?_ (by omega) hacc)
      exact hk' S _ (k1 S _ (Ne.symm hCS) (Ne.symm hIS) hS)
  | succ k ih =>
    intro i s acc c hk hi hst hS hsz hacc hR
    have hlt : i < n := by omega
    refine codeAny_builtin PySem.F.entry_extend_loop ?_
    rw [Around.under_plainId PySem.F.plain_extend_loop _]
    show wpAny _ A.in1 (pyNext (.ref a) >>= _) _ _ s
    obtain ⟨hgen, hlim, gs, hgs, hgo⟩ := hst
    have hSl : S < s.heap.objs.size := Heap.lt_size hS
    obtain ⟨m, hm⟩ : ∃ m, n - i = m + 1 := ⟨n - i - 1, by omega⟩
    rw [hm] at hgo
    refine wpAny_bind (wpAny_pyNext_genexpQ (A := A.in1) (P := fun m s₀ s₁ => m = 0 ∧ Adv C I s₀ s₁) hh hlim hroom hgen hgs (hgo (s.setGen g .running) (fun _ _ _ e => e) hSl) (fun v s₁ gs' hb hv => ?_) (fun s₁ hp h' hk' => ?_))
    · obtain ⟨⟨y, u, rfl, hy⟩, ⟨h1, tk1, dr1, rfl, k1⟩, hkap⟩ := hv
      have hS1 := k1 S _ (Ne.symm hCS) (Ne.symm hIS) hS
      show wpAny _ A.in1 (updateSeq S (·.push (.str y u)) >>= _) _ _ _
      have hsz3 : (acc.push (Value.str y u)).size = i + 1 := by rw [Array.size_push, hsz]
      have hsz2 : acc.size ≤ sizeLine := by rw [hsz]; exact Nat.le_trans (Nat.le_trans hi hn) (by decide)
      refine wpAny_bind (wpAny_updateSeq (s := { s.setGen g .running with heap := h1, toks := tk1, drawn := dr1, gens := _ }) hS1 rfl (wpAny_pure ⟨plainId_quiet PySem.F.plain_extend_loop _, ih (i + 1) _ (acc.push (.str y u)) _ (by omega) hlt ?_ (Heap.get?_update_self _ hS1 rfl) hsz3 ?_ fun s' acc' c' hm' hS' hsz' hacc' => ?_⟩) hsz2 (by rw [hsz3]; exact Nat.le_trans (Nat.succ_le_succ (Nat.le_trans hi hn)) (by decide)))
      · obtain ⟨oa, nm, qn, hoa, hra⟩ := hgen
        obtain ⟨mc, hnsc, hnn⟩ := hlim
        refine ⟨⟨oa, nm, qn, Heap.get?_update_of_ne _ (Ne.symm haS) (k1 a _ haC haI hoa), hra⟩, ⟨mc, hnsc.at' fun o e => Heap.get?_update_of_ne _ (Ne.symm hcS) (k1 cStatics _ hcC hcI e), hnn⟩, gs', setGen_self (gs := .running) (setGen_self hgs), fun s'' hal hSl'' => ?_⟩
        have e : n - (i + 1) = m := by omega
        rw [e]
        exact hkap s'' (fun b o hb e => hal b o hb (Heap.get?_update_of_ne _ (Ne.symm hb) e)) hSl''
      · intro v hv
        rw [Array.toList_push] at hv
        rcases List.mem_append.mp hv with hv | hv
        · exact hacc v hv
        · exact ⟨y, u, List.mem_singleton.mp hv, hy⟩
      · refine hR s' acc' c' (MvG.trans ?_ hm') hS' hsz' hacc'
        refine ⟨fun b o hb e => ?_, GenOnlyQ.of ((GenOnly.setGen s g .running).trans (GenOnly.setGen _ g gs')) (setGen_self (gs := .running) (setGen_self hgs)) hb, rfl⟩
        exact Heap.get?_update_of_ne _ (fun q => hb (q ▸ .tail _ (.tail _ (.head _)))) (k1 b o (fun q => hb (q ▸ .head _)) (fun q => hb (q ▸ .tail _ (.head _))) e)
    · exact absurd hp.1 (Nat.succ_ne_zero m)
end
end Mine
namespace Mine
open PySem PySem.W PyProof.Rows PySem.Calls
open Builtin Builtin.Str Builtin.Int

theorem MvG.off {W : List Addr} {g S : Nat} {s s' : Shared} (x : MvG (W ++ [S]) g s s') (hS : s.heap.objs.size ≤ S) : MvG W g s s' :=
  ⟨fun b o hb e => x.heap b o (fun hm => by
    rcases List.mem_append.mp hm with q | q
    · exact hb q
    · rw [List.mem_singleton.mp q] at e; exact Nat.not_lt.mpr hS (Heap.lt_size e)) e, x.gens, x.os⟩

theorem short_sum {l : List (Str × Tok)} (h : ∀ p ∈ l, p.1.length ≤ 3000) : ((l.map (·.1)).map (·.length)).sum ≤ l.length * 3000 := by
  induction l with
  | nil => simp
  | cons p l ih =>
    have h1 := h p (.head _)
    have h2 := ih fun q hq => h q (.tail _ hq)
    simp only [List.map_cons, List.sum_cons, List.length_cons]
    omega

section
variable {prog : Program} {w : World} {A : Around} {E : Value → Shared → Prop} {s : Shared} {a C I : Addr} {g n : Nat}

theorem collectReps {Q : List Value → Shared → Prop} (hh : A.handled = none) (hroom : A.depth < recursionLimit) (haC : a ≠ C) (haI : a ≠ I) (hcC : cStatics ≠ C) (hcI : cStatics ≠ I) (haL : a < s.heap.objs.size) (hCL : C < s.heap.objs.size) (hIL : I < s.heap.objs.size) (hcL : cStatics < s.heap.objs.size) (hn : n ≤ 100)
    (st : RepGen prog w A.in1.in1 a C I s.heap.objs.size g n 0 s)
    (hQ : ∀ s' acc, MvG [C, I] g s s' → acc.size = n → shortStrs acc → Q acc.toList s') : wpAny (model prog w) A (collect (.ref a)) Q E s := by
  obtain ⟨hgen, hlim, gs, hgs, hgo⟩ := st
  have hSI : s.heap.objs.size ≠ a := Ne.symm (Nat.ne_of_lt haL)
  unfold collect
  refine wpAny_bind (wpAny_runValue (codeAny_builtin PySem.F.entry_proto_collect ?_))
  rw [Around.under_plainId PySem.F.plain_proto_collect _]
  show wpAny _ A.in1 (newList [] >>= fun l => again (.builtin "list.__iadd__" ⟨[l, .ref a], []⟩)) _ _ s
  refine wpAny_bind (wpAny_newObj_type ?_)
  refine wpAny_pure ⟨plainId_quiet PySem.F.plain_list_iadd _, codeAny_builtin PySem.F.entry_list_iadd ?_⟩
  rw [Around.under_plainId PySem.F.plain_list_iadd _]
  have hgen1 : (s.heap.push { cls := .type "list", data := .seq ([] : List Value).toArray }).IsGen a g := let ⟨o, nm, qn, ho, r⟩ := hgen; ⟨o, nm, qn, Heap.get?_push_of_some _ ho, r⟩
  show wpAny _ A.in1 (Builtin.List.listExtendWith (.ref s.heap.objs.size) (.ref a) (.ref s.heap.objs.size)) _ _ _
  unfold Builtin.List.listExtendWith
  refine wpAny_bind (wpAny_typeOf (hgen1.typeIs) ?_)
  have h1 : Builtin.List.listSameRef (.ref s.heap.objs.size) (.ref a) = false := by simp [Builtin.List.listSameRef, hSI]
  have h2 : (Value.type "generator" == Value.type "list") = false := by decide
  have h3 : (Value.type "generator" == Value.type "tuple") = false := by decide
  simp only [h1, h2, h3, Bool.or_false, Bool.false_eq_true, if_false]
  refine wpAny_bind (wpAny_pyIter_gen hgen1 ?_)
  refine wpAny_bind (wpAny_holding ?_)
  unfold Builtin.List.listLengthHint
  refine wpAny_bind (wpAny_specialOf hgen1.typeIs PySem.F.gen_no_len ?_)
  show wpAny _ A.in1 (specialOf (Value.ref a) (Str.ofString "__length_hint__") >>= _) _ _ _
  refine wpAny_bind (wpAny_specialOf hgen1.typeIs PySem.F.gen_no_hint ?_)
  refine wpAny_pure ?_
  show wpAny _ A.in1 (rule "list.extend.makes-room" >>= fun _ => Builtin.List.listTouch (.ref s.heap.objs.size) >>= fun _ =>
    again (.builtin "list.extend.loop" ⟨[.ref s.heap.objs.size, .ref a, .ref s.heap.objs.size], []⟩)) _ _ _
  refine wpAny_bind (wpAny_rule ?_)
  have hS₁ : (s.heap.push { cls := .type "list", data := .seq ([] : List Value).toArray }).get? s.heap.objs.size = some { cls := .type "list", data := .seq ([] : List Value).toArray } := Heap.get?_push_size _ rfl
  refine wpAny_bind ?_
  show wpAny _ A.in1 (updateSeq s.heap.objs.size (·.push .none) >>= fun _ => updateSeq s.heap.objs.size (·.pop)) _ _ _
  refine wpAny_bind (wpAny_updateSeq hS₁ rfl ?_)
  have hS₂ := Heap.get?_update_self (Obj.mapSeq (·.push Value.none)) hS₁ rfl
  refine wpAny_updateSeq hS₂ rfl ?_
  have hS₃ := Heap.get?_update_self (Obj.mapSeq (·.pop)) hS₂ rfl
  have oth : ∀ b o, b ≠ s.heap.objs.size → s.heap.get? b = some o →
      (((s.heap.push { cls := .type "list", data := .seq ([] : List Value).toArray }).update s.heap.objs.size (Obj.mapSeq (·.push Value.none))).update s.heap.objs.size (Obj.mapSeq (·.pop))).get? b = some o :=
    fun b o hb e => (Heap.get?_update_other _ _ (Ne.symm hb)).trans ((Heap.get?_update_other _ _ (Ne.symm hb)).trans (Heap.get?_push_of_some _ e))
  refine wpAny_pure ⟨plainId_quiet PySem.F.plain_extend_loop _, repLoop (A := A) (a := a) (C := C) (I := I) (S := s.heap.objs.size) (g := g) (n := n) hh hroom haC haI (Nat.ne_of_lt haL) (Nat.ne_of_lt hCL) (Nat.ne_of_lt hIL) hcC hcI (Nat.ne_of_lt hcL) _ hn (n - 0) 0 _ _ _ rfl (Nat.zero_le _)
    ?_ hS₃ rfl (fun v hv => ?_) fun s' acc' c' hm hS' hsz hacc => ?_⟩
  · refine ⟨?_, ?_, gs, hgs, fun s'' hal hSl => hgo s'' (fun b o hb e => hal b o hb (oth b o hb e)) hSl⟩
    rotate_left
    · obtain ⟨mc, hns, hnn⟩ := hlim
      exact ⟨mc, hns.at' fun o e => oth _ o (Nat.ne_of_lt hcL) e, hnn⟩
    obtain ⟨o, nm, qn, ho, r⟩ := hgen
    exact ⟨o, nm, qn, oth a o (Nat.ne_of_lt haL) ho, r⟩
  · simp at hv
  · show wpAny _ A (load s.heap.objs.size >>= _) _ _ s'
    refine wpAny_bind (wpAny_load hS' ?_)
    refine wpAny_pure (hQ s' acc' (MvG.off (S := s.heap.objs.size) ⟨fun b o hb e => hm.heap b o hb (oth b o (fun q => hb (q ▸ .tail _ (.tail _ (.head _)))) e), hm.gens, hm.os⟩ (Nat.le_refl _)) hsz hacc)

theorem joinReps {x : Str} {t : Tok} {Q : Value → Shared → Prop} (hx : x.length ≤ 64) (hh : A.handled = none) (hroom : A.depth < recursionLimit) (haC : a ≠ C) (haI : a ≠ I) (hcC : cStatics ≠ C) (hcI : cStatics ≠ I) (haL : a < s.heap.objs.size) (hCL : C < s.heap.objs.size) (hIL : I < s.heap.objs.size) (hcL : cStatics < s.heap.objs.size) (hn : n ≤ 100)
    (st : RepGen prog w A.in1.in1.in1 a C I s.heap.objs.size g n 0 s)
    (hQ : ∀ s' y t', MvG [C, I] g s s' → y.length ≤ 1000000 → Q (.str y t') s') :
    wpAny (model prog w) A (call (.builtin "str.join") [.str x t, .ref a]) Q E s := by
  have hgen := st.1
  refine wpAny_call (codeAny_call_builtin PySem.F.slot_str_join.plain PySem.F.entry_str_join (PySem.F.slot_str_join.check _ _ _ _ _ _ _ _ (typeIs_str _ _ _) (PySem.F.args_str_join_2 _ _) ?_))
  rw [join_tree_other]
  refine wpAny_bind (wpAny_typeOf hgen.typeIs ?_)
  show wpAny _ A.in1 ((pyIter (.ref a)).tryCatch _ >>= fun it => collect it >>= fun items => joinTail x items) _ _ s
  refine wpAny_bind (wpAny_tryCatch (wpAny_pyIter_gen hgen ?_))
  refine wpAny_bind (collectReps (A := A.in1) hh hroom haC haI hcC hcI haL hCL hIL hcL hn st fun s' acc hm hsz hacc => ?_)
  obtain ⟨l, hl⟩ := exists_strValues acc.toList fun v hv => let ⟨y, u, e, _⟩ := hacc v hv; ⟨y, u, e⟩
  have hll : l.length = n := by
    have h1 : (strValues l).length = acc.size := (congrArg List.length hl).trans (Array.length_toList)
    rw [← hsz, ← h1]; unfold strValues; rw [List.length_map]
  have hls : ∀ p ∈ l, p.1.length ≤ 3000 := fun p hp => by
    have hm : Value.str p.1 p.2 ∈ strValues l := by unfold strValues; exact List.mem_map.mpr ⟨p, hp, rfl⟩
    rw [hl] at hm
    obtain ⟨y, u, e, hy⟩ := hacc _ hm
    injection e with e1 e2
    rw [e1]; exact hy
  have hsum := short_sum hls
  have hok : JoinOk x (l.map (·.1)) = true := joinOk_of (by
    rw [List.length_map]
    have : l.length * x.length ≤ l.length * 64 := Nat.mul_le_mul_left _ hx
    omega)
  rw [← hl]
  unfold JoinOk at hok
  rw [Bool.not_eq_true'] at hok
  have gg : Gives (joinTail x (strValues l)) (joinMade x l) := by
    have g0 := gives_joinTail x l hok
    cases l with
    | nil => exact g0
    | cons p r => cases r with
      | nil => exact g0
      | cons q r' => exact g0
  refine gg prog w A (wants Q E) s' (post_join l ⟨joinFit_length hok, fun t' k => hQ _ _ t' ⟨hm.heap, hm.gens, hm.os⟩ ?_⟩)
  show (Builtin.Str.glued x _).length ≤ _
  rw [StrLaws.glued_eq_join]
  refine Nat.le_trans (StrLaws.join_length_le x _) ?_
  rw [List.length_map]
  have : l.length * x.length ≤ l.length * 64 := Nat.mul_le_mul_left _ hx
  omega
end
end Mine
namespace Mine
open PySem PySem.W PyProof.Rows PySem.Calls

theorem Sv.none {h₀ h : Heap} {b : Addr} (x : Sv h₀ h) (hb : h.objs.size ≤ b) : h₀.get? b = none := by
  cases e : h₀.get? b with
  | none => rfl
  | some o =>
    by_cases q : b = 16
    · subst q
      obtain ⟨_, hc⟩ := x.code
      obtain ⟨_, _, _, _, _, _, _, _, _, op, _, _, _, _, _, _, _, e2, _⟩ := hc
      exact absurd (Heap.lt_size e2) (Nat.not_lt.mpr hb)
    · exact absurd (Heap.lt_size (x.keep b o q e)) (Nat.not_lt.mpr hb)
theorem Sv.lt16 {h₀ h : Heap} (x : Sv h₀ h) : 16 < h.objs.size := by
  obtain ⟨_, hc⟩ := x.code
  obtain ⟨_, _, _, _, _, _, _, _, _, op, _, _, _, _, _, _, _, e2, _⟩ := hc
  exact Heap.lt_size e2

section
variable {prog : Program} {w : World} {A : Around} {E : Value → Shared → Prop} {s : Shared} {h₀ h h' : Heap} {C I S d : Addr} {kvs : List (Str × Value)} {D : List (Nat × List Nat)} {ep : Nat}

theorem seg_repStart {x : Str} {px pr pa pc : Pos} {iter : Expr} {scope : Scope} {pos : Pos} {env : Env} {code : Value} (hh : A.handled = none) (hg : A.guards = some []) (hu : A.units + 40 < cLine)
    (hx : scope.names.lookup x = some .local) (hxr : scope.names.lookup (Str.ofString "repr") = some .globalImplicit) (hkind : scope.kind = .function) (hco : scope.isCoroutine = false) (hdx : (x == ("__debug__" : Str)) = false) (hgl : env.globals = mainGlobals)
    (hCI : C ≠ I) (hCS : C ≠ S) (hIS : I ≠ S) (hC0 : h₀.get? C = none) (hI0 : h₀.get? I = none) (hS0 : h₀.get? S = none) (hdI : d ≠ I) (hdC : d ≠ C) (hdS : d ≠ S)
    (hrI : I ∉ refsOf kvs) (hrC : C ∉ refsOf kvs) (hrS : S ∉ refsOf kvs) {s₀ s : Shared} {ok ov : Value} (st : RepAt prog w h₀ C I S d kvs D ep 0 s) (hit : IsItemIter s.heap I d 0 kvs.length ep ok ov) (ad : Adv C I s₀ s) :
      Seg (model prog w) A (repEnd C I) (repProto C I S) kvs.length s₀
        (.compStart (.GeneratorExp (.Call (.Name "repr" pr) [.Name x pa] [] pc) [⟨.Name x px, iter, [], 0⟩] scope pos) 0 (.ref I) .none (genEnv scope [] C code builtinsNs env))
        ((model prog w).den (.compStart (.GeneratorExp (.Call (.Name "repr" pr) [.Name x pa] [] pc) [⟨.Name x px, iter, [], 0⟩] scope pos) 0 (.ref I) .none (genEnv scope [] C code builtinsNs env))) [] s := by
  have loop := seg_rep (px := px) (pr := pr) (pa := pa) (pc := pc) (iter := iter) (pos := pos) (code := code) hh hg hu hx hxr hkind hco hdx hgl hCI hCS hIS hC0 hI0 hS0 hdI hdC hdS hrI hrC hrS kvs.length 0 s₀ s (Nat.sub_zero _) (Nat.zero_le _) st ad
  rw [Nat.sub_zero] at loop
  show Seg _ A _ _ _ s₀ _ ((compStart (.GeneratorExp (.Call (.Name "repr" pr) [.Name x pa] [] pc) [⟨.Name x px, iter, [], 0⟩] scope pos) 0 (.ref I) .none (genEnv scope [] C code builtinsNs env)).onRaise (leaving (genEnv scope [] C code builtinsNs env))) [] s
  unfold compStart
  rw [Sem.onRaise_eq_wrap]
  show Seg _ A _ _ _ s₀ _ ((ask >>= _).wrap _ _ _ _) [] s
  refine seg_bind_wrap (wpAny_askSetting ?_)
  split
  · exact seg_again rfl loop
  · first
      | exact seg_bind_wrap (wpAny_rule (seg_bind_wrap (wpAny_standAt (seg_bind_wrap (kcp_self hit (seg_again rfl loop))))))
      | (refine seg_bind_wrap (wpAny_rule ?_); show Seg _ A _ _ _ s₀ _ ((standAt iter.pos >>= _).wrap _ _ _ _) [] s; exact seg_bind_wrap (wpAny_standAt (seg_bind_wrap (kcp_self hit (seg_again rfl loop)))))

theorem genReps {Ag : Around} {env : Env} {x : Str} {px pr pa pc : Pos} {iter : Expr} {scope : Scope} {pos : Pos} {Q : Value → Shared → Prop}
    (hh : A.handled = none) (hhg : Ag.handled = none) (hgg : Ag.guards = some []) (hug : Ag.units + 40 < cLine)
    (hco : scope.isCoroutine = false) (hclos : closureFor scope env = pure []) (hcell : ∀ y ∈ scope.names, y.2 ≠ .cell) (h0 : scope.names.lookup (".0" : Str) = some NameKind.local)
    (hx : scope.names.lookup x = some .local) (hxr : scope.names.lookup (Str.ofString "repr") = some .globalImplicit) (hkind : scope.kind = .function) (hroom : A.depth < recursionLimit)
    (hdx : (x == ("__debug__" : Str)) = false) (hcode : env.code = .ref 18) (hgl : env.globals = mainGlobals)
    (h : wpAny (model prog w) A (eval iter env) (fun xv s₁ => ∃ vw d kvs D, xv = .ref vw ∧ s₁.heap.IsItemsView vw d ∧ s₁.heap.DictOf (strKind prog w) d kvs ∧ SRel prog w s₁.heap kvs D ∧ D.length ≤ 7 ∧ Sv h₀ s₁.heap ∧ (16 : Addr) ∉ refsOf kvs ∧ d ≠ 16 ∧ 
      ∀ a h₅ tk gs C I, gs.bare = true → (∀ b o, b ≠ 16 → s₁.heap.get? b = some o → h₅.get? b = some o) → Sv h₀ h₅ → s₁.heap.objs.size ≤ a → s₁.heap.objs.size ≤ C → s₁.heap.objs.size ≤ I → a < h₅.objs.size → C < h₅.objs.size → I < h₅.objs.size → a ≠ C → a ≠ I →
        RepGen prog w Ag a C I h₅.objs.size s₁.gens.size kvs.length 0 { s₁ with gens := s₁.gens.push gs, toks := tk, heap := h₅ } → Q (.ref a) { s₁ with gens := s₁.gens.push gs, toks := tk, heap := h₅ }) No s)
    (hs : ∀ x, genFold iter env x = pure x := by intro _; rfl) :
    wpAny (model prog w) A (eval (.GeneratorExp (.Call (.Name "repr" pr) [.Name x pa] [] pc) [⟨.Name x px, iter, [], 0⟩] scope pos) env) Q No s := by
  refine wpAny_GeneratorExp_make hco hclos hcell h0 hkind hroom (wpAny_mono h (fun xv s₁ h₁ => ?_) fun _ _ f => f) hs
  obtain ⟨vw, d, kvs, D, rfl, hv, hD, hr, hDl, hsv, h16, hd16, hQ⟩ := h₁
  obtain ⟨ep, hat⟩ := hD.dictAt
  refine wpAny_pyIter_items hv hat ?_
  have hsv2 : Sv h₀ (s₁.heap.push { cls := .type "dict_itemiterator", data := .fields #[.none, .bool false, .ref d, .int 0 0, .int kvs.length 0, .int ep 0, .none, .none] }) := hsv.keeps fun b o e => Heap.get?_push_of_some _ e
  refine ⟨hsv2.gn.glo.nolimit, ?_⟩
  obtain ⟨pt0, ptm, _, hcd⟩ := hsv2.grown
  refine genexprCodeT (s := { s₁ with heap := _ }) hcode hcd fun code h3 tk3 hx3 hc3 => ?_
  have hsv3 : Sv h₀ h3 := hsv2.but (fun b o hb e => hx3 b o hb e) fun ps x => x.uniq hcd ▸ hc3
  obtain ⟨mg, hmg, bm, ob, b1, b2, b3, b4, b5, b6, b7, b8⟩ := hsv3.gn.bi
  refine wpAny_builtinsFor (s := { s₁ with heap := h3, toks := tk3 }) (hgl ▸ hmg) b1 b2 b5 b6 b7 b8 ?_
  intro h4 hn4 hs4
  dsimp only at hn4 hs4 ⊢
  have hne16 : s₁.heap.objs.size ≠ 16 := Ne.symm (Nat.ne_of_lt hsv.lt16)
  have hIl : s₁.heap.objs.size < h3.objs.size := by
    have e : (s₁.heap.push { cls := .type "dict_itemiterator", data := .fields #[.none, .bool false, .ref d, .int 0 0, .int kvs.length 0, .int ep 0, .none, .none] }).get? s₁.heap.objs.size = some _ := Heap.get?_push_size _ rfl
    exact Heap.lt_size (hx3 _ _ hne16 e)
  have k34 : ∀ b o, h3.get? b = some o → h4.get? b = some o := fun b o e => hs4.extBut b o (Nat.ne_of_lt (Heap.lt_size e)) (Heap.get?_push_of_some _ e)
  have z4 : h4.objs.size = h3.objs.size + 1 := by rw [hs4.1, Heap.size_push]
  generalize hH5 : h4.push { cls := .type "generator", data := .fields #[.int s₁.gens.size 0, .str "<genexpr>" (tk3 + 1), .str (env.qual ++ "<genexpr>") (tk3 + 1 + 1)] } = h5
  have z5 : h5.objs.size = h4.objs.size + 1 := by rw [← hH5, Heap.size_push]
  have k35 : ∀ b o, h3.get? b = some o → h5.get? b = some o := fun b o e => hH5 ▸ Heap.get?_push_of_some _ (k34 b o e)
  have k15 : ∀ b o, b ≠ 16 → s₁.heap.get? b = some o → h5.get? b = some o := fun b o hb e => k35 b o (hx3 b o hb (Heap.get?_push_of_some _ e))
  have hsv5 : Sv h₀ h5 := hsv3.keeps k35
  have hg5 : h5.IsGen h4.objs.size s₁.gens.size := ⟨_, _, _, hH5 ▸ Heap.get?_push_size _ rfl, rfl, rfl, rfl⟩
  have hst5 : (h5.DictAt (strKind prog w) d kvs ep) := hat.at' fun o e => k15 d o hd16 e
  have hit5 : IsItemIter h5 s₁.heap.objs.size d 0 kvs.length ep .none .none := k35 _ _ (hx3 _ _ hne16 (Heap.get?_push_size _ rfl))
  have hns5 : ∃ m, h5.Ns h3.objs.size m := ⟨_, by rw [← hH5]; exact hn4.push _⟩
  have hr5 : SRel prog w h5 kvs D := hr.within fun l hl o e => k15 l o (fun q => h16 (q ▸ hl)) e
  have hdl := dict_lt hD
  have hrl : ∀ l ∈ refsOf kvs, l < s₁.heap.objs.size := fun l hl => by
    obtain ⟨k, hk⟩ := refsOf_mem.mp hl
    obtain ⟨n, js, _, _, _, hns⟩ := hr.mem hk
    exact hns.lt
  have l34 : h3.objs.size < h4.objs.size := by rw [z4]; exact Nat.lt_succ_self _
  have l45 : h4.objs.size < h5.objs.size := by rw [z5]; exact Nat.lt_succ_self _
  have l35 := Nat.lt_trans l34 l45
  have l15 := Nat.lt_trans hIl l35
  refine hQ h4.objs.size h5 _ _ h3.objs.size s₁.heap.objs.size rfl k15 hsv5 (Nat.le_of_lt (Nat.lt_trans hIl l34)) (Nat.le_of_lt hIl) (Nat.le_refl _) l45 l35 l15 (Ne.symm (Nat.ne_of_lt l34)) (Ne.symm (Nat.ne_of_lt (Nat.lt_trans hIl l34))) ?_
  refine ⟨hg5, hsv5.gn.glo.nolimit, _, Array.getElem?_push_size .., fun s'' hal hSl => ⟨rfl, ?_⟩⟩
  dsimp only at hal
  have nS : h₀.get? h5.objs.size = none := hsv5.none (Nat.le_refl _)
  have st : RepAt prog w h₀ h3.objs.size s₁.heap.objs.size h5.objs.size d kvs D ep 0 s'' := by
    refine ⟨hsv5.off [h5.objs.size] (fun b hb => by rw [List.mem_singleton.mp hb]; exact nS) fun b o hb e => hal b o (fun q => hb (q ▸ .head _)) e, hr5.within fun l hl o e => hal l o (Nat.ne_of_lt (Nat.lt_trans (hrl l hl) l15)) e,
      hst5.at' fun o e => hal d o (Nat.ne_of_lt (Nat.lt_trans hdl l15)) e, .inl ⟨rfl, .none, .none, hal _ _ (Nat.ne_of_lt l15) hit5⟩, ?_, hSl⟩
    obtain ⟨m, hm⟩ := hns5
    exact ⟨m, hm.at' fun o e => hal _ o (Nat.ne_of_lt l35) e⟩
  rw [Nat.sub_zero]
  exact seg_repStart hhg hgg hug hx hxr hkind hco hdx hgl (Ne.symm (Nat.ne_of_lt hIl)) (Nat.ne_of_lt l35) (Nat.ne_of_lt l15) (hsv.none (Nat.le_of_lt hIl)) (hsv.none (Nat.le_refl _)) nS (Nat.ne_of_lt hdl) (Nat.ne_of_lt (Nat.lt_trans hdl hIl)) (Nat.ne_of_lt (Nat.lt_trans hdl l15))
    (fun hm => Nat.lt_irrefl _ (hrl _ hm)) (fun hm => Nat.lt_irrefl _ (Nat.lt_trans (hrl _ hm) hIl)) (fun hm => Nat.lt_irrefl _ (Nat.lt_trans (hrl _ hm) l15)) st (hal _ _ (Nat.ne_of_lt l15) hit5) (Adv.refl _ _ _)
end
end Mine
namespace Mine
open PySem

/-! the plain law, part one: the depths -/

theorem fAt_snoc (f : List (Nat × Nat)) (n x m : Nat) : fAt (f ++ [(n, x)]) m = (fAt f m).or (if n = m then some x else none) := by
  unfold fAt
  rw [List.find?_append]
  cases h : f.find? (fun p => decide (p.1 = m)) with
  | some p => simp
  | none => by_cases e : n = m <;> simp [e]
def Ext (f f' : List (Nat × Nat)) : Prop := ∀ j v, fAt f j = some v → fAt f' j = some v
theorem Ext.turn (D : List (Nat × List Nat)) (f : List (Nat × Nat)) (n : Nat) : Ext f (turn1 D f n) := by
  intro j v e
  unfold turn1
  split
  · rw [fAt_snoc, e]; rfl
  · exact e
theorem Ext.fold (D : List (Nat × List Nat)) : ∀ (l : List Nat) (f : List (Nat × Nat)), Ext f (l.foldl (turn1 D) f)
  | [], _ => fun _ _ e => e
  | a :: r, f => fun j v e => Ext.fold D r _ j v (Ext.turn D f a j v e)
theorem dep1_ext {D : List (Nat × List Nat)} {f f' : List (Nat × Nat)} {n : Nat} (h : ∀ j ∈ depsOf D n, (fAt f j).isSome = true) (x : Ext f f') : dep1 D f' n = dep1 D f n := by
  unfold dep1
  split
  · rfl
  · have : (depsOf D n).map (fun j => (fAt f' j).getD 0) = (depsOf D n).map fun j => (fAt f j).getD 0 := List.map_congr_left fun j hj => by
      obtain ⟨v, hv⟩ := Option.isSome_iff_exists.mp (h j hj)
      rw [x j v hv, hv]
    rw [this]
def GoodF (D : List (Nat × List Nat)) (f : List (Nat × Nat)) : Prop := ∀ n k, fAt f n = some k → (∀ j ∈ depsOf D n, (fAt f j).isSome = true) ∧ k = dep1 D f n
theorem ready_iff {D : List (Nat × List Nat)} {f : List (Nat × Nat)} {n : Nat} : ready D f n = true ↔ fAt f n = none ∧ ∀ j ∈ depsOf D n, (fAt f j).isSome = true := by
  unfold ready
  simp [Bool.and_eq_true, List.all_eq_true, Option.isNone_iff_eq_none]
theorem GoodF.turn {D : List (Nat × List Nat)} {f : List (Nat × Nat)} (h : GoodF D f) (n : Nat) : GoodF D (turn1 D f n) := by
  have hx := Ext.turn D f n
  intro m k e
  by_cases hr : ready D f n = true
  · have hr' := ready_iff.mp hr
    have e1 : turn1 D f n = f ++ [(n, dep1 D f n)] := by unfold turn1; rw [if_pos hr]
    rw [e1] at e hx ⊢
    rw [fAt_snoc] at e
    cases q : fAt f m with
    | some v =>
      rw [q] at e
      have ev : v = k := by simpa using e
      subst ev
      obtain ⟨h1, h2⟩ := h m v q
      exact ⟨fun j hj => (Option.isSome_iff_exists.mpr (let ⟨u, hu⟩ := Option.isSome_iff_exists.mp (h1 j hj); ⟨u, hx j u hu⟩)), by rw [dep1_ext h1 hx]; exact h2⟩
    | none =>
      rw [q] at e
      by_cases hnm : n = m
      · subst hnm
        have ev : dep1 D f n = k := by simpa using e
        exact ⟨fun j hj => (Option.isSome_iff_exists.mpr (let ⟨u, hu⟩ := Option.isSome_iff_exists.mp (hr'.2 j hj); ⟨u, hx j u hu⟩)), by rw [dep1_ext hr'.2 hx]; exact ev.symm⟩
      · simp [hnm] at e
  · have e1 : turn1 D f n = f := by unfold turn1; rw [if_neg hr]
    rw [e1] at e ⊢
    exact h m k e
theorem GoodF.fold {D : List (Nat × List Nat)} : ∀ {l : List Nat} {f : List (Nat × Nat)}, GoodF D f → GoodF D (l.foldl (turn1 D) f)
  | [], _, h => h
  | a :: r, _, h => by rw [List.foldl_cons]; exact GoodF.fold (l := r) (h.turn a)
theorem GoodF.rounds {D : List (Nat × List Nat)} {ns : List Nat} : ∀ k, GoodF D (rounds D ns k)
  | 0 => fun _ _ e => by simp [Mine.rounds, fAt] at e
  | k + 1 => GoodF.fold (GoodF.rounds k)

/-- nothing is ready -/
def Closed (D : List (Nat × List Nat)) (ns : List Nat) (f : List (Nat × Nat)) : Prop := ∀ n ∈ ns, ready D f n = false
theorem turn1_len (D : List (Nat × List Nat)) (f : List (Nat × Nat)) (n : Nat) : f.length ≤ (turn1 D f n).length := by
  unfold turn1; split
  · simp
  · exact Nat.le_refl _
theorem fold_len (D : List (Nat × List Nat)) : ∀ (l : List Nat) (f : List (Nat × Nat)), f.length ≤ (l.foldl (turn1 D) f).length
  | [], _ => Nat.le_refl _
  | a :: r, f => Nat.le_trans (turn1_len D f a) (fold_len D r _)
theorem fold_same {D : List (Nat × List Nat)} : ∀ {l : List Nat} {f : List (Nat × Nat)}, (∀ n ∈ l, ready D f n = false) → l.foldl (turn1 D) f = f
  | [], _, _ => rfl
  | a :: r, f, h => by
    have : turn1 D f a = f := by unfold turn1; rw [h a (.head _)]; rfl
    rw [List.foldl_cons, this]
    exact fold_same fun n hn => h n (.tail _ hn)
theorem fold_grows {D : List (Nat × List Nat)} : ∀ {l : List Nat} {f : List (Nat × Nat)}, (∃ n ∈ l, ready D f n = true) → f.length < (l.foldl (turn1 D) f).length
  | a :: r, f, h => by
    rw [List.foldl_cons]
    by_cases ha : ready D f a = true
    · have : (turn1 D f a).length = f.length + 1 := by unfold turn1; rw [if_pos ha]; simp
      have := fold_len D r (turn1 D f a)
      omega
    · have e : turn1 D f a = f := by unfold turn1; rw [if_neg ha]
      rw [e]
      obtain ⟨n, hn, hr⟩ := h
      rcases List.mem_cons.mp hn with q | hn
      · subst q; exact absurd hr ha
      · exact fold_grows ⟨n, hn, hr⟩
theorem rounds_grow {D : List (Nat × List Nat)} {ns : List Nat} : ∀ k, Closed D ns (rounds D ns k) ∨ k ≤ (rounds D ns k).length
  | 0 => .inr (Nat.zero_le _)
  | k + 1 => by
    by_cases hc : Closed D ns (rounds D ns k)
    · refine .inl ?_
      show Closed D ns (ns.foldl (turn1 D) (rounds D ns k))
      rw [fold_same hc]; exact hc
    · rcases rounds_grow k with q | q
      · exact absurd q hc
      · have : ∃ n ∈ ns, ready D (rounds D ns k) n = true := by
          unfold Closed at hc
          simp only [Classical.not_forall] at hc
          obtain ⟨n, hn, hr⟩ := hc
          exact ⟨n, hn, by simpa using hr⟩
        exact .inr (Nat.lt_of_le_of_lt q (fold_grows this))
theorem fAt_mem {f : List (Nat × Nat)} {n : Nat} (h : n ∈ f.map (·.1)) : (fAt f n).isSome = true := by
  cases q : fAt f n with
  | some _ => rfl
  | none => exact absurd h (fAt_none q)
theorem mem_fAt {f : List (Nat × Nat)} {n v : Nat} (h : fAt f n = some v) : n ∈ f.map (·.1) := by
  unfold fAt at h
  cases q : f.find? (fun p => decide (p.1 = n)) with
  | none => rw [q] at h; cases h
  | some p =>
    have h1 := List.mem_of_find?_eq_some q
    have h2 := List.find?_some q
    exact List.mem_map.mpr ⟨p, h1, by simpa using h2⟩
theorem full_of_len : ∀ {ns l : List Nat}, l.Nodup → (∀ x ∈ l, x ∈ ns) → ns.Nodup → ns.length ≤ l.length → ∀ x ∈ ns, x ∈ l
  | [], _, _, _, _, _, x, hx => nomatch hx
  | a :: r, l, hl, hs, hn, hlen, x, hx => by
    have hn' := List.nodup_cons.mp hn
    by_cases ha : a ∈ l
    · have hl' := hl.erase a
      have ih := full_of_len (ns := r) (l := l.erase a) hl' (fun y hy => by
        have := (hl.mem_erase_iff).mp hy
        rcases List.mem_cons.mp (hs y this.2) with q | q
        · exact absurd q this.1
        · exact q) hn'.2 (by rw [List.length_erase_of_mem ha]; simp at hlen; omega)
      rcases List.mem_cons.mp hx with q | q
      · subst q; exact ha
      · exact List.mem_of_mem_erase (ih x q)
    · have : l.length ≤ r.length := by
        have hsub : ∀ y ∈ l, y ∈ r := fun y hy => by
          rcases List.mem_cons.mp (hs y hy) with q | q
          · subst q; exact absurd hy ha
          · exact q
        exact hl.length_le_of_subset fun y hy => hsub y hy
      simp at hlen; omega
theorem rounds_closed {D : List (Nat × List Nat)} {ns : List Nat} (hn : ns.Nodup) : Closed D ns (rounds D ns ns.length) := by
  rcases rounds_grow (D := D) (ns := ns) ns.length with q | q
  · exact q
  · intro n hm
    have ok := FOk.rounds (ns := ns) (D := D) ns.length
    have := full_of_len ok.1 (fun x hx => by obtain ⟨p, hp, rfl⟩ := List.mem_map.mp hx; exact ok.2 p hp) hn (by rw [List.length_map]; exact q) n hm
    have h1 := fAt_mem this
    cases hr : ready D (rounds D ns ns.length) n with
    | false => rfl
    | true => rw [(ready_iff.mp hr).1] at h1; cases h1
end Mine
namespace Mine
open PySem

/-! the plain law, part two: the rounds of the generator -/

/-- what may go now -/
def goes (D : List (Nat × List Nat)) (x : Nat) : Bool := (!decide (x ∈ D.map (·.1)) && D.any fun p => decide (x ∈ p.2)) || D.any fun p => decide (p.1 = x) && p.2.isEmpty
def lotOf (D : List (Nat × List Nat)) : List Nat := (List.range 7).filter (goes D)
def nextD (D : List (Nat × List Nat)) : List (Nat × List Nat) := less (lotOf D) D
inductive Runs : List (Nat × List Nat) → List (List Nat) → Bool → Prop
  | done : Runs [] [] false
  | stuck {D : List (Nat × List Nat)} : D ≠ [] → lotOf D = [] → Runs D [] true
  | step {D : List (Nat × List Nat)} {ls : List (List Nat)} {b : Bool} : D ≠ [] → lotOf D ≠ [] → Runs (nextD D) ls b → Runs D (lotOf D :: ls) b

theorem goes_iff {D : List (Nat × List Nat)} {x : Nat} : goes D x = true ↔ (x ∉ D.map (·.1) ∧ ∃ p ∈ D, x ∈ p.2) ∨ ∃ p ∈ D, p.1 = x ∧ p.2 = [] := by
  unfold goes
  simp only [Bool.or_eq_true, Bool.and_eq_true, Bool.not_eq_true', decide_eq_false_iff_not, List.any_eq_true, decide_eq_true_eq, List.isEmpty_iff]
theorem less_congr {T T' : List Nat} {D : List (Nat × List Nat)} (h : ∀ p ∈ D, ∀ j ∈ p.2, (j ∈ T ↔ j ∈ T')) : less T D = less T' D := by
  unfold less
  refine List.map_congr_left fun p hp => ?_
  have hp' := (List.mem_filter.mp hp).1
  have : p.2.filter (fun j => !decide (j ∈ T)) = p.2.filter (fun j => !decide (j ∈ T')) := List.filter_congr fun j hj => by simp only [h p hp' j hj]
  rw [this]

section
variable {D : List (Nat × List Nat)}

/-- the depth of a name -/
def dl (D : List (Nat × List Nat)) (n : Nat) : Option Nat := fAt (depthsOf D) n
def early (D : List (Nat × List Nat)) (r n : Nat) : Bool := match dl D n with | some k => decide (k < r) | none => false

theorem depsAt_of_mem (hn : (D.map (·.1)).Nodup) {p : Nat × List Nat} (hp : p ∈ D) : depsOf D p.1 = p.2 := by
  obtain ⟨i, hi⟩ := List.getElem?_of_mem hp
  unfold depsOf
  rw [depsAt_get hn hi]; rfl
theorem depsOf_none {n : Nat} (h : n ∉ D.map (·.1)) : depsOf D n = [] := by
  unfold depsOf depsAt
  have : D.find? (fun p => decide (p.1 = n)) = none := by
    rw [List.find?_eq_none]
    intro p hp
    simp only [decide_eq_true_eq]
    exact fun e => h (List.mem_map.mpr ⟨p, hp, e⟩)
  rw [this]; rfl
theorem mem_namesStep {ns js : List Nat} {x : Nat} : x ∈ namesStep ns js ↔ x ∈ ns ∨ x ∈ js := by
  unfold namesStep
  rw [List.mem_append, List.mem_filter]
  constructor
  · rintro (h | h)
    · exact .inl h
    · exact .inr h.1
  · rintro (h | h)
    · exact .inl h
    · by_cases q : x ∈ ns
      · exact .inl q
      · exact .inr ⟨h, by simpa using q⟩
theorem mem_namesFold {x : Nat} : ∀ {jss : List (List Nat)} {ns : List Nat}, x ∈ jss.foldl namesStep ns ↔ x ∈ ns ∨ ∃ js ∈ jss, x ∈ js
  | [], _ => by simp
  | j :: r, ns => by
    rw [List.foldl_cons, mem_namesFold (jss := r), mem_namesStep]
    constructor
    · rintro ((h | h) | ⟨js, h1, h2⟩)
      · exact .inl h
      · exact .inr ⟨j, .head _, h⟩
      · exact .inr ⟨js, .tail _ h1, h2⟩
    · rintro (h | ⟨js, h1, h2⟩)
      · exact .inl (.inl h)
      · rcases List.mem_cons.mp h1 with q | q
        · subst q; exact .inl (.inr h2)
        · exact .inr ⟨js, q, h2⟩
theorem mem_namesOf {x : Nat} : x ∈ namesOf D ↔ x ∈ D.map (·.1) ∨ ∃ p ∈ D, x ∈ p.2 := by
  unfold namesOf
  rw [mem_namesFold]
  constructor
  · rintro (h | ⟨js, h1, h2⟩)
    · exact .inl h
    · obtain ⟨p, hp, rfl⟩ := List.mem_map.mp h1
      exact .inr ⟨p, hp, h2⟩
  · rintro (h | ⟨p, hp, h⟩)
    · exact .inl h
    · exact .inr ⟨p.2, List.mem_map.mpr ⟨p, hp, rfl⟩, h⟩

/-- what the depths are like -/
structure Deps (D : List (Nat × List Nat)) : Prop where
  keys : (D.map (·.1)).Nodup
  names : (namesOf D).Nodup
  lt : ∀ n ∈ namesOf D, n < 7

theorem dl_name {n k : Nat} (h : dl D n = some k) : n ∈ namesOf D := by
  have := mem_fAt h
  obtain ⟨p, hp, rfl⟩ := List.mem_map.mp this
  exact (FOk.rounds (ns := namesOf D) (D := D) (namesOf D).length).2 p hp
theorem dl_zero (x : Deps D) {n : Nat} (hn : n ∈ namesOf D) (h : depsOf D n = []) : dl D n = some 0 := by
  have hc := rounds_closed (D := D) x.names n hn
  cases q : dl D n with
  | none =>
    have : ready D (depthsOf D) n = true := ready_iff.mpr ⟨q, fun j hj => by rw [h] at hj; cases hj⟩
    exact absurd this (by rw [show ready D (depthsOf D) n = false from hc]; decide)
  | some k =>
    have := (GoodF.rounds (D := D) (ns := namesOf D) (namesOf D).length n k q).2
    unfold dep1 at this
    rw [if_pos h] at this
    rw [this]
theorem dl_succ {n k : Nat} (h : dl D n = some k) (hne : depsOf D n ≠ []) : (∀ j ∈ depsOf D n, ∃ i, dl D j = some i ∧ i < k) ∧ ∃ j ∈ depsOf D n, dl D j = some (k - 1) ∧ 0 < k := by
  obtain ⟨h1, h2⟩ := GoodF.rounds (D := D) (ns := namesOf D) (namesOf D).length n k h
  unfold dep1 at h2
  rw [if_neg hne] at h2
  refine ⟨fun j hj => ?_, ?_⟩
  · obtain ⟨i, hi⟩ := Option.isSome_iff_exists.mp (h1 j hj)
    refine ⟨i, hi, ?_⟩
    have := le_maxL (l := (depsOf D n).map fun j => (fAt (rounds D (namesOf D) (namesOf D).length) j).getD 0) (x := i) (List.mem_map.mpr ⟨j, hj, by rw [hi]; rfl⟩)
    omega
  · have hm := maxL_mem (l := (depsOf D n).map fun j => (fAt (rounds D (namesOf D) (namesOf D).length) j).getD 0) (by simpa using hne)
    obtain ⟨j, hj, e⟩ := List.mem_map.mp hm
    obtain ⟨i, hi⟩ := Option.isSome_iff_exists.mp (h1 j hj)
    rw [hi] at e
    refine ⟨j, hj, ?_, by omega⟩
    show fAt (rounds D (namesOf D) (namesOf D).length) j = some (k - 1)
    rw [hi]
    simp only [Option.getD_some] at e
    rw [h2, ← e]; simp
theorem dl_some (x : Deps D) {n : Nat} (hn : n ∈ namesOf D) (h : ∀ j ∈ depsOf D n, ∃ i, dl D j = some i) : ∃ k, dl D n = some k := by
  have hc := rounds_closed (D := D) x.names n hn
  cases q : dl D n with
  | some k => exact ⟨k, rfl⟩
  | none =>
    have : ready D (depthsOf D) n = true := ready_iff.mpr ⟨q, fun j hj => Option.isSome_iff_exists.mpr (h j hj)⟩
    exact absurd this (by rw [show ready D (depthsOf D) n = false from hc]; decide)
end
end Mine
namespace Mine
open PySem
section
variable {D : List (Nat × List Nat)}

theorem early_iff {r n : Nat} : early D r n = true ↔ ∃ k, dl D n = some k ∧ k < r := by
  unfold early
  cases q : dl D n with
  | none => simp
  | some k => simp
theorem early_false {r n : Nat} (h : early D r n = false) {k : Nat} (e : dl D n = some k) : r ≤ k := by
  unfold early at h
  rw [e] at h
  simpa using h
theorem early_succ {r n : Nat} : early D (r + 1) n = (early D r n || decide (dl D n = some r)) := by
  unfold early
  cases q : dl D n with
  | none => simp
  | some k =>
    simp only [Option.some.injEq]
    by_cases h1 : k < r
    · simp [h1]; omega
    · by_cases h2 : k = r
      · simp [h2]
      · simp [h1, h2]; omega

/-- what is left in round r -/
def Dr (D : List (Nat × List Nat)) (r : Nat) : List (Nat × List Nat) := (D.filter fun p => !early D r p.1).map fun p => (p.1, p.2.filter fun j => !early D r j)
theorem Dr_zero : Dr D 0 = D := by
  unfold Dr
  have h : ∀ n, early D 0 n = false := fun n => by
    cases q : early D 0 n with
    | false => rfl
    | true => obtain ⟨k, _, hk⟩ := early_iff.mp q; exact absurd hk (Nat.not_lt_zero _)
  have f1 : (D.filter fun p => !early D 0 p.1) = D := List.filter_eq_self.mpr fun p _ => by rw [h]; rfl
  rw [f1]
  have f2 : ∀ p ∈ D, (p.1, p.2.filter fun j => !early D 0 j) = id p := fun p _ => by
    have : (p.2.filter fun j => !early D 0 j) = p.2 := List.filter_eq_self.mpr fun j _ => by rw [h]; rfl
    rw [this]; rfl
  rw [List.map_congr_left f2, List.map_id]

theorem left_empty (x : Deps D) {p : Nat × List Nat} (hp : p ∈ D) {r : Nat} (he : early D r p.1 = false) : (p.2.filter fun j => !early D r j) = [] ↔ dl D p.1 = some r := by
  have hd := depsAt_of_mem x.keys hp
  have hnm : p.1 ∈ namesOf D := mem_namesOf.mpr (.inl (List.mem_map.mpr ⟨p, hp, rfl⟩))
  constructor
  · intro h
    rw [List.filter_eq_nil_iff] at h
    by_cases hz : p.2 = []
    · have h0 := dl_zero x hnm (hd.trans hz)
      have := early_false he h0
      rw [h0]; congr 1; omega
    · have hall : ∀ j ∈ depsOf D p.1, ∃ i, dl D j = some i ∧ i < r := fun j hj => by
        have := h j (hd ▸ hj)
        exact early_iff.mp (by simpa using this)
      obtain ⟨k, hk⟩ := dl_some x hnm fun j hj => let ⟨i, hi, _⟩ := hall j hj; ⟨i, hi⟩
      obtain ⟨_, j, hj, hj1, hpos⟩ := dl_succ hk (hd ▸ hz)
      obtain ⟨i, hi, hir⟩ := hall j hj
      rw [hj1] at hi
      have := early_false he hk
      have : k - 1 = i := by simpa using hi
      rw [hk]; congr 1; omega
  · intro h
    rw [List.filter_eq_nil_iff]
    intro j hj
    have hne : depsOf D p.1 ≠ [] := fun e => by rw [hd] at e; rw [e] at hj; cases hj
    obtain ⟨i, hi, hir⟩ := (dl_succ h hne).1 j (hd ▸ hj)
    have := early_iff.mpr ⟨i, hi, hir⟩
    simp [this]

theorem mem_Dr {r : Nat} {q : Nat × List Nat} : q ∈ Dr D r ↔ ∃ p ∈ D, early D r p.1 = false ∧ q = (p.1, p.2.filter fun j => !early D r j) := by
  unfold Dr
  rw [List.mem_map]
  constructor
  · rintro ⟨p, hp, rfl⟩
    have := List.mem_filter.mp hp
    exact ⟨p, this.1, by simpa using this.2, rfl⟩
  · rintro ⟨p, hp, he, rfl⟩
    exact ⟨p, List.mem_filter.mpr ⟨hp, by simp [he]⟩, rfl⟩

theorem goes_Dr (x : Deps D) {r n : Nat} : goes (Dr D r) n = true ↔ dl D n = some r := by
  rw [goes_iff]
  constructor
  · rintro (⟨hk, q, hq, hn⟩ | ⟨q, hq, rfl, he⟩)
    · obtain ⟨p, hp, hpe, rfl⟩ := mem_Dr.mp hq
      obtain ⟨hn1, hn2⟩ := List.mem_filter.mp hn
      have hne : early D r n = false := by simpa using hn2
      have hnk : n ∉ D.map (·.1) := fun hm => by
        obtain ⟨p', hp', e⟩ := List.mem_map.mp hm
        exact hk (List.mem_map.mpr ⟨_, mem_Dr.mpr ⟨p', hp', by rw [e]; exact hne, rfl⟩, e⟩)
      have h0 := dl_zero x (mem_namesOf.mpr (.inr ⟨p, hp, hn1⟩)) (depsOf_none hnk)
      have := early_false hne h0
      rw [h0]; congr 1; omega
    · obtain ⟨p, hp, hpe, rfl⟩ := mem_Dr.mp hq
      exact (left_empty x hp hpe).mp he
  · intro h
    have hne : early D r n = false := by
      cases q : early D r n with
      | false => rfl
      | true => obtain ⟨k, e, hk⟩ := early_iff.mp q; rw [h] at e; injection e with e; omega
    by_cases hk : n ∈ D.map (·.1)
    · obtain ⟨p, hp, rfl⟩ := List.mem_map.mp hk
      exact .inr ⟨_, mem_Dr.mpr ⟨p, hp, hne, rfl⟩, rfl, (left_empty x hp hne).mpr h⟩
    · have hnm := dl_name h
      have h0 := dl_zero x hnm (depsOf_none hk)
      rw [h] at h0
      have hr : r = 0 := by simpa using h0
      subst hr
      rw [Dr_zero]
      rcases mem_namesOf.mp hnm with q | q
      · exact absurd q hk
      · exact .inl ⟨hk, q⟩

/-- the names of one depth -/
def lotAt (D : List (Nat × List Nat)) (r : Nat) : List Nat := (List.range 7).filter fun n => decide (dl D n = some r)
theorem mem_lotAt (x : Deps D) {r n : Nat} : n ∈ lotAt D r ↔ dl D n = some r := by
  unfold lotAt
  rw [List.mem_filter, List.mem_range, decide_eq_true_eq]
  exact ⟨fun h => h.2, fun h => ⟨x.lt _ (dl_name h), h⟩⟩
theorem lotOf_Dr (x : Deps D) (r : Nat) : lotOf (Dr D r) = lotAt D r := by
  unfold lotOf lotAt
  refine List.filter_congr fun n _ => ?_
  have := goes_Dr x (r := r) (n := n)
  cases q : goes (Dr D r) n with
  | true => simp [this.mp q]
  | false =>
    have : dl D n ≠ some r := fun e => by rw [this.mpr e] at q; cases q
    simp [this]
theorem next_Dr (x : Deps D) (r : Nat) : nextD (Dr D r) = Dr D (r + 1) := by
  unfold nextD
  rw [lotOf_Dr x]
  unfold less Dr
  rw [List.filter_map, List.map_map, List.filter_filter]
  have e1 : D.filter (fun p => (((fun p : Nat × List Nat => !p.2.isEmpty) ∘ fun p : Nat × List Nat => (p.1, p.2.filter fun j => !early D r j)) p) && !early D r p.1) = D.filter fun p => !early D (r + 1) p.1 := by
    refine List.filter_congr fun p hp => ?_
    rw [early_succ]
    cases he : early D r p.1 with
    | true => simp
    | false =>
      have := left_empty x hp he
      by_cases h : dl D p.1 = some r
      · simp [h, this.mpr h]
      · have h2 : ¬ (p.2.filter fun j => !early D r j) = [] := fun e => h (this.mp e)
        have h3 : (p.2.filter fun j => !early D r j).isEmpty = false := by
          cases q : (p.2.filter fun j => !early D r j) with
          | nil => exact absurd q h2
          | cons _ _ => rfl
        simp only [Function.comp_apply, h3, h, decide_false, Bool.or_false, Bool.not_false, Bool.and_true]
  rw [e1]
  refine List.map_congr_left fun p hp => ?_
  simp only [Function.comp_apply, List.filter_filter]
  congr 1
  refine List.filter_congr fun j _ => ?_
  rw [early_succ]
  have := mem_lotAt x (r := r) (n := j)
  by_cases h : dl D j = some r
  · simp [h, this.mpr h]
  · have h2 : j ∉ lotAt D r := fun e => h (this.mp e)
    simp [h, h2]
end
end Mine
namespace Mine
open PySem
section
variable {D : List (Nat × List Nat)}

theorem dl_pos_deps (x : Deps D) {n k : Nat} (h : dl D n = some (k + 1)) : depsOf D n ≠ [] := fun e => by
  rw [dl_zero x (dl_name h) e] at h; cases h
theorem attained (x : Deps D) : ∀ {k n : Nat}, dl D n = some k → ∀ i, i ≤ k → ∃ m, dl D m = some i
  | 0, n, h, i, hi => by
    have : i = 0 := by omega
    subst this; exact ⟨n, h⟩
  | k + 1, n, h, i, hi => by
    by_cases e : i = k + 1
    · subst e; exact ⟨n, h⟩
    · obtain ⟨_, j, _, hj, _⟩ := dl_succ h (dl_pos_deps x h)
      exact attained x (k := k) (by simpa using hj) i (by omega)
theorem chain (x : Deps D) : ∀ {k n : Nat}, dl D n = some k → ∃ l : List Nat, l.length = k + 1 ∧ l.Nodup ∧ ∀ m ∈ l, ∃ i, i ≤ k ∧ dl D m = some i
  | 0, n, h => ⟨[n], rfl, by simp, fun m hm => by rw [List.mem_singleton.mp hm]; exact ⟨0, Nat.le_refl _, h⟩⟩
  | k + 1, n, h => by
    obtain ⟨_, j, _, hj, _⟩ := dl_succ h (dl_pos_deps x h)
    obtain ⟨l, h1, h2, h3⟩ := chain x (k := k) (n := j) (by simpa using hj)
    refine ⟨n :: l, by simp [h1], List.nodup_cons.mpr ⟨fun hm => ?_, h2⟩, fun m hm => ?_⟩
    · obtain ⟨i, hi, e⟩ := h3 n hm
      rw [h] at e; injection e with e; omega
    · rcases List.mem_cons.mp hm with q | q
      · rw [q]; exact ⟨k + 1, Nat.le_refl _, h⟩
      · obtain ⟨i, hi, e⟩ := h3 m q
        exact ⟨i, by omega, e⟩
theorem dl_lt (x : Deps D) {n k : Nat} (h : dl D n = some k) : k < (namesOf D).length := by
  obtain ⟨l, h1, h2, h3⟩ := chain x h
  have := h2.length_le_of_subset (l₂ := namesOf D) fun m hm => let ⟨_, _, e⟩ := h3 m hm; dl_name e
  omega

/-- some key never goes -/
def held (D : List (Nat × List Nat)) : Bool := D.any fun p => (dl D p.1).isNone
theorem held_iff (x : Deps D) : held D = decide ((depthsOf D).length < (namesOf D).length) := by
  have ok := FOk.rounds (ns := namesOf D) (D := D) (namesOf D).length
  have hsub : ∀ y ∈ (depthsOf D).map (·.1), y ∈ namesOf D := fun y hy => by obtain ⟨p, hp, rfl⟩ := List.mem_map.mp hy; exact ok.2 p hp
  have hnd : ((depthsOf D).map (·.1)).Nodup := ok.1
  cases h : held D with
  | true =>
    obtain ⟨p, hp, hn⟩ := List.any_eq_true.mp h
    have hn' : dl D p.1 = none := Option.isNone_iff_eq_none.mp hn
    have hm : p.1 ∈ namesOf D := mem_namesOf.mpr (.inl (List.mem_map.mpr ⟨p, hp, rfl⟩))
    have hlt : (depthsOf D).length < (namesOf D).length := by
      refine Nat.lt_of_not_le fun hle => ?_
      have := full_of_len hnd hsub x.names (by rw [List.length_map]; exact hle) p.1 hm
      have h1 := fAt_mem this
      rw [show fAt (depthsOf D) p.1 = none from hn'] at h1; cases h1
    exact (decide_eq_true hlt).symm
  | false =>
    have hall : ∀ n ∈ namesOf D, n ∈ (depthsOf D).map (·.1) := fun n hn => by
      by_cases hk : n ∈ D.map (·.1)
      · obtain ⟨p, hp, rfl⟩ := List.mem_map.mp hk
        cases q : dl D p.1 with
        | none =>
          have : held D = true := List.any_eq_true.mpr ⟨p, hp, by rw [q]; rfl⟩
          rw [h] at this; cases this
        | some k => exact mem_fAt q
      · exact mem_fAt (dl_zero x hn (depsOf_none hk))
    have hle := x.names.length_le_of_subset (l₂ := (depthsOf D).map (·.1)) fun n hn => hall n hn
    rw [List.length_map] at hle
    exact (decide_eq_false (Nat.not_lt.mpr hle)).symm

/-- the lots from round r on -/
def lotsFrom (D : List (Nat × List Nat)) (r k : Nat) : List (List Nat) := ((List.range' r k).map (lotAt D)).filter fun l => !l.isEmpty
theorem lotAt_nil_ge (x : Deps D) {r : Nat} (h : lotAt D r = []) {i : Nat} (hi : r ≤ i) : lotAt D i = [] := by
  refine List.eq_nil_iff_forall_not_mem.mpr fun n hn => ?_
  obtain ⟨m, hm⟩ := attained x ((mem_lotAt x).mp hn) r hi
  have := (mem_lotAt x).mpr hm
  rw [h] at this; cases this
theorem lotsFrom_nil (x : Deps D) : ∀ {k r : Nat}, lotAt D r = [] → lotsFrom D r k = []
  | k, r, h => by
    unfold lotsFrom
    rw [List.filter_eq_nil_iff]
    intro l hl
    obtain ⟨i, hi, rfl⟩ := List.mem_map.mp hl
    have := (List.mem_range'_1.mp hi).1
    rw [lotAt_nil_ge x h this]; simp
theorem Dr_end (x : Deps D) {r : Nat} (h : lotAt D r = []) : (Dr D r = [] ↔ held D = false) := by
  have hear : ∀ {n k : Nat}, dl D n = some k → early D r n = true := fun {n k} e => by
    refine early_iff.mpr ⟨k, e, Nat.lt_of_not_le fun hle => ?_⟩
    have := (mem_lotAt x).mpr e
    rw [lotAt_nil_ge x h hle] at this; cases this
  constructor
  · intro he
    cases q : held D with
    | false => rfl
    | true =>
      obtain ⟨p, hp, hn⟩ := List.any_eq_true.mp q
      have hn' : dl D p.1 = none := Option.isNone_iff_eq_none.mp hn
      have : early D r p.1 = false := by unfold early; rw [hn']
      have hm := mem_Dr.mpr ⟨p, hp, this, rfl⟩
      rw [he] at hm; cases hm
  · intro q
    refine List.eq_nil_iff_forall_not_mem.mpr fun y hy => ?_
    obtain ⟨p, hp, he, _⟩ := mem_Dr.mp hy
    cases e : dl D p.1 with
    | some k => rw [hear e] at he; cases he
    | none =>
      have : held D = true := List.any_eq_true.mpr ⟨p, hp, by rw [e]; rfl⟩
      rw [q] at this; cases this
theorem runs_end (x : Deps D) {r : Nat} (h : lotAt D r = []) : Runs (Dr D r) [] (held D) := by
  cases q : held D with
  | false => rw [(Dr_end x h).mpr q]; exact .done
  | true =>
    refine .stuck (fun e => ?_) (by rw [lotOf_Dr x]; exact h)
    rw [(Dr_end x h).mp e] at q; cases q
theorem runs_from (x : Deps D) : ∀ (k r : Nat), (namesOf D).length ≤ r + k → Runs (Dr D r) (lotsFrom D r k) (held D)
  | 0, r, hr => by
    have h : lotAt D r = [] := List.eq_nil_iff_forall_not_mem.mpr fun n hn => by
      have := dl_lt x ((mem_lotAt x).mp hn); omega
    exact runs_end x h
  | k + 1, r, hr => by
    by_cases h : lotAt D r = []
    · rw [lotsFrom_nil x h]; exact runs_end x h
    · have hl : lotsFrom D r (k + 1) = lotOf (Dr D r) :: lotsFrom D (r + 1) k := by
        unfold lotsFrom
        rw [List.range'_succ, List.map_cons, lotOf_Dr x]
        have : (lotAt D r).isEmpty = false := by cases q : lotAt D r with
          | nil => exact absurd q h
          | cons _ _ => rfl
        rw [List.filter_cons_of_pos (by simp [this])]
      rw [hl]
      refine .step (fun e => ?_) (by rw [lotOf_Dr x]; exact h) (by rw [next_Dr x]; exact runs_from x k (r + 1) (by omega))
      obtain ⟨n, hn⟩ := List.exists_mem_of_ne_nil _ h
      have := (goes_Dr x (r := r) (n := n)).mpr ((mem_lotAt x).mp hn)
      rw [e] at this; simp [goes] at this
/-- **the rounds of the generator, by the depths** -/
theorem runs_of (x : Deps D) : Runs D (((List.range (namesOf D).length).map (lotAt D)).filter fun l => !l.isEmpty) (decide ((depthsOf D).length < (namesOf D).length)) := by
  have := runs_from x (namesOf D).length 0 (by omega)
  rw [Dr_zero, held_iff x] at this
  unfold lotsFrom at this
  rw [← List.range_eq_range'] at this
  exact this
end
end Mine
namespace Mine
open PySem PySem.W PyProof.Rows PySem.Calls

abbrev eSolve (L : Addr) : Env := envOfC "solve_dependencies" (fscope dSolve) L 19 (.ref 18)
def whBody : Stmt → List Stmt
  | .While _ b _ _ => b
  | _ => []
def whTest : Stmt → Expr
  | .While t _ _ _ => t
  | _ => default
abbrev solveW : List Stmt := whBody ((fbody dSolve).getD 0 (.Pass default))
abbrev solveSt (i : Nat) : Stmt := solveW.getD i (.Pass default)

/-- what the generator stands on -/
structure Slv (prog : Program) (w : World) (h₀ : Heap) (L d : Addr) (kvs : List (Str × Value)) (D : List (Nat × List Nat)) (s : Shared) : Prop where
  sv : Sv h₀ s.heap
  ns : ∃ m, s.heap.Ns L m ∧ m "dependencies" = some (.ref d)
  cell : ∃ v, s.heap.IsCell (L + 1) v
  dic : s.heap.DictOf (strKind prog w) d kvs
  rel : SRel prog w s.heap kvs D
  len : D.length ≤ 7
  nodup : (D.map (·.1)).Nodup
  hd : (d == sysModules) = false ∧ d ∉ [16, L, L + 1]
  hr : ∀ l ∈ refsOf kvs, l ∉ [16, L, L + 1]
  new : h₀.get? L = none ∧ h₀.get? (L + 1) = none

section
variable {prog : Program} {w : World} {A : Around} {E : Value → Shared → Prop} {s : Shared} {h₀ h h' : Heap} {L d : Addr} {kvs : List (Str × Value)} {D : List (Nat × List Nat)}

theorem depLd {p : Pos} {Q : Value → Shared → Prop} (x : ∃ m, s.heap.Ns L m ∧ m "dependencies" = some (.ref d)) (h : Q (.ref d) s) : wpAny (model prog w) A (eval (.Name "dependencies" p) (eSolve L)) Q E s := by
  obtain ⟨m, hn, e⟩ := x
  exact wpAny_Name (wpAny_loadName_local (by rfl) (by rfl) hn e h) (by decide)
theorem tLd {p : Pos} {v : Value} {Q : Value → Shared → Prop} (x : s.heap.IsCell (L + 1) (some v)) (h : Q v s) : wpAny (model prog w) A (eval (.Name "t" p) (eSolve L)) Q E s :=
  wpAny_Name (wpAny_loadName_cell (c := L + 1) (by rfl) (by rfl) (by rfl) x h) (by decide)

theorem SRel.lt7 : ∀ {kvs : List (Str × Value)} {D : List (Nat × List Nat)}, SRel prog w h kvs D → ∀ n ∈ D.map (·.1), n < 7
  | _, _, .nil, _, hm => nomatch hm
  | _, _, .cons hn _ r, n, hm => by
    rcases List.mem_cons.mp hm with q | q
    · rw [q]; exact hn
    · exact SRel.lt7 r n q

/-- the first statement: the names that are leaned on and no keys -/
theorem solve1 {Q : Flow → Shared → Prop} (hh : A.handled = none) (x : Slv prog w h₀ L d kvs D s)
    (hQ : ∀ t h' tk dr T, (∀ b o, b ≠ L + 1 → s.heap.get? b = some o → h'.get? b = some o) → s.heap.objs.size ≤ t → h'.IsCell (L + 1) (some (.ref t)) → NS prog w h' t T → (∀ n, n ∈ T ↔ n ∉ D.map (·.1) ∧ ∃ p ∈ D, n ∈ p.2) → Q .next { s with heap := h', toks := tk, drawn := dr }) :
    wpAny (model prog w) A (exec (solveSt 0) (eSolve L)) Q No s := by
  obtain ⟨v0, hc⟩ := x.cell
  refine wpAny_Assign_Name (wpAny_BinOp (setCompVals hh (by rfl) (by decide) (by rfl) (by decide) (by rfl) (by rfl) (by decide) (by decide) (MethodCall_ (depLd x.ns (getMethod_builtin x.dic.typeIs PySem.F.plainAttrs_dict PySem.F.slot_dict_values PySem.F.type_dict_values x.dic.mapOf.noDict (callWith_method0 (callValues x.hd.1 x.dic fun vw h1 ev k1 hvw => ?_)))))))
  refine ⟨vw, d, kvs, D, rfl, hvw, x.dic.at fun o e => k1 _ o e, x.rel.within fun l _ o e => k1 l o e, x.len, fun S h2 tk2 dr2 Y hS k2 nY hY => ?_⟩
  have k12 : ∀ b o, s.heap.get? b = some o → h2.get? b = some o := fun b o e => k2 b o (k1 b o e)
  have dic2 : h2.DictOf (strKind prog w) d kvs := x.dic.at fun o e => k12 _ o e
  have ns2 : ∃ m, h2.Ns L m ∧ m "dependencies" = some (.ref d) := let ⟨m, hn, e⟩ := x.ns; ⟨m, hn.keeps k12, e⟩
  have hl7 := x.rel.length
  refine MethodCall_ (depLd (s := { s with heap := h2, toks := tk2, drawn := dr2 }) ns2 (getMethod_builtin dic2.typeIs PySem.F.plainAttrs_dict PySem.F.slot_dict_keys PySem.F.type_dict_keys dic2.mapOf.noDict (callWith_method0 (callKeys x.hd.1 dic2 fun kv h3 ek k3 hkv => ?_))))
  have k13 : ∀ b o, s.heap.get? b = some o → h3.get? b = some o := fun b o e => k3 b o (k12 b o e)
  have nY3 : NS prog w h3 S Y := nY.at fun o e => k3 _ o e
  refine subKeys (s := { s with heap := h3, toks := tk2, drawn := dr2 }) hh nY3.1 (by rw [List.length_map]; exact nY3.len) hkv (dic2.at fun o e => k3 _ o e) (by rw [hl7]; have := x.len; omega) fun t h4 tk4 ht k4 hT => ?_
  have k14 : ∀ b o, s.heap.get? b = some o → h4.get? b = some o := fun b o e => k4 b o (k13 b o e)
  have hc4 : h4.IsCell (L + 1) v0 := let ⟨o, e, r⟩ := hc; ⟨o, k14 _ _ e, r⟩
  have e1 : (Y.map nm).filter (fun k => !decide (k ∈ kvs.map (·.1))) = (Y.filter fun n => !decide (n ∈ D.map (·.1))).map nm := by
    rw [List.filter_map]
    congr 1
    refine List.filter_congr fun n hn => ?_
    have hk : kvs.map (·.1) = (D.map (·.1)).map nm := by rw [x.rel.keys, List.map_map]; rfl
    have : nm n ∈ kvs.map (·.1) ↔ n ∈ D.map (·.1) := by
      rw [hk, List.mem_map]
      constructor
      · rintro ⟨i, hi, e⟩
        have hi7 : i < 7 := x.rel.lt7 i hi
        have hn7 : n < 7 := nY.2 n hn
        exact nm_inj hi7 hn7 e ▸ hi
      · exact fun hm => ⟨n, hm, rfl⟩
    simp only [Function.comp_apply, this]
  rw [e1] at hT
  have nT : NS prog w h4 t (Y.filter fun n => !decide (n ∈ D.map (·.1))) := ⟨hT, fun j hj => nY.2 j (List.mem_filter.mp hj).1⟩
  refine wpAny_storeName_cell (s := { s with heap := h4, toks := tk4, drawn := dr2 }) (c := L + 1) (by rfl) (by rfl) (by rfl) hc4 fun h5 hv5 hs5 => ?_
  have hvl : vw < h1.objs.size := let ⟨_, ho, _⟩ := hvw; Heap.lt_size ho
  have hts : s.heap.objs.size ≤ t := by
    have a1 : s.heap.objs.size < h1.objs.size := ev ▸ hvl
    exact Nat.le_of_lt (Nat.lt_of_lt_of_le (Nat.lt_of_lt_of_le a1 (Nat.le_trans hS (Nat.le_of_lt nY3.lt))) ht)
  have hLs : L + 1 < s.heap.objs.size := let ⟨o, e, _⟩ := hc; Heap.lt_size e
  refine hQ t h5 tk4 dr2 _ (fun b o hb e => (hs5.2 b hb).trans (k14 b o e)) hts hv5 (nT.at fun o e => (hs5.2 t (Nat.ne_of_gt (Nat.lt_of_lt_of_le hLs hts))).trans e) fun n => ?_
  rw [List.mem_filter, hY]
  simp only [Bool.not_eq_true', decide_eq_false_iff_not]
  exact And.comm
end
end Mine
namespace Mine
open PySem PySem.W PyProof.Rows PySem.Calls

/-- what a generator does to the state: it writes W, its generators are new -/
structure Gmv (W : List Addr) (s s' : Shared) : Prop where
  heap : ∀ b o, b ∉ W → s.heap.get? b = some o → s'.heap.get? b = some o
  bare : (∀ x ∈ s.gens, x.bare = true) → ∀ x ∈ s'.gens, x.bare = true
  size : s.gens.size ≤ s'.gens.size
  same : ∀ i, i < s.gens.size → s'.gens[i]? = s.gens[i]?
  os : s'.os = s.os
theorem Gmv.refl (W : List Addr) (s : Shared) : Gmv W s s := ⟨fun _ _ _ e => e, fun h => h, Nat.le_refl _, fun _ _ => rfl, rfl⟩
theorem Gmv.trans {W : List Addr} {a b c : Shared} (x : Gmv W a b) (y : Gmv W b c) : Gmv W a c :=
  ⟨fun q o hq e => y.heap q o hq (x.heap q o hq e), fun h => y.bare (x.bare h), Nat.le_trans x.size y.size, fun i hi => (y.same i (Nat.lt_of_lt_of_le hi x.size)).trans (x.same i hi), y.os.trans x.os⟩
theorem Gmv.mono {W W' : List Addr} {s s' : Shared} (x : Gmv W s s') (h : ∀ b ∈ W, b ∈ W' ∨ s.heap.get? b = none) : Gmv W' s s' :=
  ⟨fun b o hb e => x.heap b o (fun hm => by
    rcases h b hm with q | q
    · exact hb q
    · rw [q] at e; cases e) e, x.bare, x.size, x.same, x.os⟩
theorem Gmv.here {W : List Addr} {s : Shared} {h' : Heap} {tk : Nat} {dr : Drawn} (hk : ∀ b o, b ∉ W → s.heap.get? b = some o → h'.get? b = some o) : Gmv W s { s with heap := h', toks := tk, drawn := dr } :=
  ⟨hk, fun h => h, Nat.le_refl _, fun _ _ => rfl, rfl⟩
theorem Gmv.fresh {s s' : Shared} {gs : GenState} {W : List Addr} (hb : gs.bare = true) (hk : ∀ b o, b ∉ W → s.heap.get? b = some o → s'.heap.get? b = some o) (hg : GenOnlyQ s.gens.size (s.gens.push gs) s'.gens) (ho : s'.os = s.os) : Gmv W s s' := by
  have hsz : s'.gens.size = s.gens.size + 1 ∧ ∀ i, i < s.gens.size → s'.gens[i]? = s.gens[i]? := by
    rcases hg with q | ⟨⟨q1, q2⟩, _⟩
    · rw [q]; exact ⟨Array.size_push .., fun i hi => by rw [Array.getElem?_push]; simp [Nat.ne_of_lt hi]⟩
    · refine ⟨by rw [q1, Array.size_push], fun i hi => ?_⟩
      rw [q2 i (Nat.ne_of_lt hi), Array.getElem?_push]; simp [Nat.ne_of_lt hi]
  refine ⟨hk, fun h => hg.bare fun y hy => ?_, by rw [hsz.1]; exact Nat.le_succ _, hsz.2, ho⟩
  rcases Array.mem_push.mp hy with q | q
  · exact h y q
  · rw [q]; exact hb

theorem emptyOf_len (D : List (Nat × List Nat)) : (emptyOf D).length ≤ D.length := by
  unfold emptyOf passing
  rw [List.length_map, List.drop_zero]
  refine Nat.le_trans (List.length_filter_le _ _) ?_
  rw [List.length_range]; exact Nat.le_refl _
theorem emptyOf_lt {D : List (Nat × List Nat)} (h : ∀ n ∈ D.map (·.1), n < 7) : ∀ n ∈ emptyOf D, n < 7 := fun n hn => by
  obtain ⟨p, hp, _, rfl⟩ := emptyOf_mem.mp hn
  exact h _ (List.mem_map.mpr ⟨p, hp, rfl⟩)

section
variable {prog : Program} {w : World} {A : Around} {E : Value → Shared → Prop} {s : Shared} {h₀ h h' : Heap} {L d : Addr} {kvs : List (Str × Value)} {D : List (Nat × List Nat)}

theorem Slv.move (x : Slv prog w h₀ L d kvs D s) {s' : Shared} (hk : ∀ b o, b ∉ [16, L, L + 1] → s.heap.get? b = some o → s'.heap.get? b = some o) (sv : Sv h₀ s'.heap) (ns : ∃ m, s'.heap.Ns L m ∧ m "dependencies" = some (.ref d)) (cell : ∃ v, s'.heap.IsCell (L + 1) v) : Slv prog w h₀ L d kvs D s' :=
  ⟨sv, ns, cell, x.dic.at fun o e => hk _ o x.hd.2 e, x.rel.within fun l hl o e => hk l o (x.hr l hl) e, x.len, x.nodup, x.hd, x.hr, x.new⟩

/-- the second statement -/
theorem solve2 {t : Addr} {T : List Nat} {Q : Flow → Shared → Prop} (hh : A.handled = none) (hroom : A.depth < recursionLimit) (x : Slv prog w h₀ L d kvs D s) (hc : s.heap.IsCell (L + 1) (some (.ref t))) (hT : NS prog w s.heap t T)
    (ht : t ∉ [16, cStatics, d, L, L + 1]) (htr : t ∉ refsOf kvs) (ht0 : h₀.get? t = none)
    (hQ : ∀ s' T', Gmv [16, t] s s' → Sv h₀ s'.heap → NS prog w s'.heap t T' → (∀ n, n ∈ T' ↔ n ∈ T ∨ ∃ p ∈ D, p.1 = n ∧ p.2 = []) → Q .next s') :
    wpAny (model prog w) A (exec (solveSt 1) (eSolve L)) Q No s := by
  have h16 : (16 : Addr) ∉ refsOf kvs := fun hm => x.hr 16 hm (.head _)
  have hd16 : d ≠ 16 := fun e => x.hd.2 (e ▸ .head _)
  have ht16 : t ≠ 16 := fun e => ht (e ▸ .head _)
  refine wpAny_Expr (MethodCall_ (tLd hc (getMethod_builtin hT.1.typeIs PySem.F.plainAttrs_set PySem.F.slot_set_update PySem.F.type_set_update hT.1.noDict (callWith_method1 (spliced_more (genKeys (h₀ := h₀) hh (by rfl) (by rfl) (by decide) (by rfl) (by rfl) (by rfl) (by decide) (by rfl) hroom (by decide) (by decide) (by rfl) (by rfl) (MethodCall_ (depLd x.ns (getMethod_builtin x.dic.typeIs PySem.F.plainAttrs_dict PySem.F.slot_dict_items PySem.F.type_dict_items x.dic.mapOf.noDict (callWith_method0 (callItems x.hd.1 x.dic fun vw h1 ev k1 hvw => ?_)))))))))))
  refine ⟨vw, d, kvs, D, rfl, hvw, x.dic.at fun o e => k1 _ o e, x.rel.within fun l _ o e => k1 l o e, x.len, x.sv.keeps k1, h16, hd16, fun a h5 tk gs fp C I St hb k5 sv5 ha hC hI W hfp hst st => spliced_none ?_⟩
  have k15 : ∀ b o, b ≠ 16 → s.heap.get? b = some o → h5.get? b = some o := fun b o hb e => k5 b o hb (k1 b o e)
  have hT5 : NS prog w h5 t T := hT.at fun o e => k15 _ o ht16 e
  have hts : t < s.heap.objs.size := hT.lt
  have hvl : s.heap.objs.size < h1.objs.size := by
    have : vw < h1.objs.size := let ⟨_, ho, _⟩ := hvw; Heap.lt_size ho
    exact ev ▸ this
  have htf : t ∉ fp := fun hm => by
    rcases hfp t hm with q | q | q | q
    · exact Nat.lt_irrefl _ (Nat.lt_of_lt_of_le (Nat.lt_trans hts hvl) q)
    · exact ht (q ▸ .tail _ (.head _))
    · exact ht (q ▸ .tail _ (.tail _ (.head _)))
    · exact htr q
  have hlt7 := x.rel.lt7
  have hel : (emptyOf D).length ≤ 7 := Nat.le_trans (emptyOf_len D) x.len
  refine updateGen (s := { s with gens := s.gens.push gs, toks := tk, heap := h5 }) (ord := (emptyOf D).map nm) hT5.1 W (hst 0 _ st).2 htf (fun i v hv => hv) (by rw [List.length_map]) (by rw [List.length_map]; have := hT.len; omega) st fun s' hm hS => ?_
  rw [foldAdd_nm (emptyOf_lt hlt7) hT.2] at hS
  have new : ∀ {b : Addr}, h1.objs.size ≤ b → s.heap.get? b = none := fun {b} hb => get_none (Nat.le_trans (Nat.le_of_lt hvl) hb)
  have hWn : ∀ b ∈ [t, C, I], h₀.get? b = none := fun b hb => by
    rcases List.mem_cons.mp hb with q | hb
    · rw [q]; exact ht0
    · rcases List.mem_cons.mp hb with q | hb
      · rw [q]; exact x.sv.none (Nat.le_trans (Nat.le_of_lt hvl) hC)
      · rw [List.mem_singleton.mp hb]; exact x.sv.none (Nat.le_trans (Nat.le_of_lt hvl) hI)
  refine hQ s' ((emptyOf D).foldl addN T) (Gmv.fresh hb (fun b o hb e => hm.heap b o (fun hmem => ?_) (k15 b o (fun q => hb (q ▸ .head _)) e)) hm.gens hm.os) (sv5.off [t, C, I] hWn hm.heap) ⟨hS, fun j hj => ?_⟩ fun n => ?_
  · rcases List.mem_cons.mp hmem with q | q
    · exact hb (q ▸ .tail _ (.head _))
    · rcases List.mem_cons.mp q with q | q
      · rw [q, new hC] at e; cases e
      · rw [List.mem_singleton.mp q, new hI] at e; cases e
  · rcases foldN_mem.mp hj with q | q
    · exact hT.2 j q
    · exact emptyOf_lt hlt7 j q
  · rw [foldN_mem, emptyOf_mem]
    constructor
    · rintro (q | ⟨p, hp, e1, e2⟩)
      · exact .inl q
      · exact .inr ⟨p, hp, e2, e1⟩
    · rintro (q | ⟨p, hp, e1, e2⟩)
      · exact .inl q
      · exact .inr ⟨p, hp, e2, e1⟩
end
end Mine
namespace Mine
open PySem PySem.W PyProof.Rows PySem.Calls
section
variable {prog : Program} {w : World} {A : Around} {E : Value → Shared → Prop} {s : Shared} {h₀ h h' : Heap} {a d I t : Addr} {D : List (Nat × List Nat)} {kvs : List (Str × Value)} {ys : List Str} {R : Result → Shared → Prop}

theorem dictAssignSub {env : Env} {xa xb tn y : Str} {pa pb pt pe pv pw pq pr py : Pos} {kt : Nat} {iter : Expr} {scope : Scope} {pos spos : Pos} {c : Addr} {Q : Flow → Shared → Prop} (hh : A.handled = none)
    (hsw : swapsWith (.DictComp (.Name xa pe) (.BinOp (.Name xb pv) .Sub (.Name tn pw) pq) [⟨.Tuple [.Name xa pa, .Name xb pb] kt pt, iter, [.Name xb pr], 0⟩] scope pos) (some (.Name y py)) spos.line env = pure true)
    (hclos : closureFor scope env = pure [(tn, c)]) (hcellN : ∀ y ∈ scope.names, y.2 ≠ .cell) (hkind : scope.kind = .function) (hnames : ∀ y ∈ scope.names, y.2 = .local → scope.names.lookup y.1 = some .local)
    (hxa : scope.names.lookup xa = some .local) (hxb : scope.names.lookup xb = some .local) (hxt : ∀ C, (compEnvC scope [(tn, c)] C env).kindOf tn = some .cell) (hab : xa ≠ xb)
    (hda : (xa == ("__debug__" : Str)) = false) (hdb : (xb == ("__debug__" : Str)) = false) (hdt : (tn == ("__debug__" : Str)) = false)
    (hy : env.kindOf y = some .local) (hp : (env.scope.kind == .class || (env.scope.kind == .module && env.locals != env.globals)) = false)
    (h : wpAny (model prog w) A (eval iter env) (fun xv s₁ => ∃ vw d kvs D t T ml, xv = .ref vw ∧ s₁.heap.IsItemsView vw d ∧ s₁.heap.DictOf (strKind prog w) d kvs ∧ SRel prog w s₁.heap kvs D ∧ D.length ≤ 7 ∧ (D.map (·.1)).Nodup ∧ s₁.heap.IsCell c (some (.ref t)) ∧ NS prog w s₁.heap t T ∧ T ≠ [] ∧ s₁.heap.Ns env.locals ml ∧
      ∀ nd h' tk dr kvs', s₁.heap.objs.size ≤ nd → (∀ b o, b ≠ env.locals → s₁.heap.get? b = some o → h'.get? b = some o) → h'.Ns env.locals (fun x => if x = y then some (.ref nd) else ml x) → h'.DictOf (strKind prog w) nd kvs' → SRel prog w h' kvs' (less T D) → (∀ k l, (k, Value.ref l) ∈ kvs' → s₁.heap.objs.size ≤ l) → Q .next { s₁ with heap := h', toks := tk, drawn := dr }) No s)
    (hs : ∀ x, foldedSetIterable iter env x = pure x := by intro _; rfl) :
    wpAny (model prog w) A (exec (.Assign [.Name y py] (.DictComp (.Name xa pe) (.BinOp (.Name xb pv) .Sub (.Name tn pw) pq) [⟨.Tuple [.Name xa pa, .Name xb pb] kt pt, iter, [.Name xb pr], 0⟩] scope pos) spos) env) Q No s := by
  rw [exec_Assign_Name_used _ _ _ _ hsw]
  refine wpAny_bind (wpAny_standAt (wpAny_bind ?_))
  show wpAny _ A (do let _ ← comprehension (.DictComp (.Name xa pe) (.BinOp (.Name xb pv) .Sub (.Name tn pw) pq) [⟨.Tuple [.Name xa pa, .Name xb pb] kt pt, iter, [.Name xb pr], 0⟩] scope pos) scope env _ _ false (eval iter env) (some (assign (.Name y py) env))) _ _ s
  refine wpAny_bind (wpAny_mono (wpAny_comprehension_free (use := some (assign (.Name y py) env)) (gs := []) (Q := fun _ s' => Q .next s') rfl hs hclos hkind hnames (wpAny_mono h (fun xv s₁ h₁ => ?_) fun _ _ f => f)) (fun _ s' hq => wpAny_pure (wpAny_pure hq)) fun _ _ e => e)
  obtain ⟨vw, d, kvs, D, t, T, ml, rfl, hv, hD, hr, hDl, hDn, hcell, hT, hTn, hml, hQ⟩ := h₁
  obtain ⟨ep, hat⟩ := hD.dictAt
  have hdl := dict_lt hD
  refine wpAny_pyIter_items hv hat ?_
  refine wpAny_newObj_type (wpAny_newFunctionEnv hcellN (by intro y hy; simp at hy) (fun h3 hns3 hsb3 => ?_) hkind)
  dsimp only at hns3 hsb3 ⊢
  generalize hH1 : s₁.heap.push { cls := .type "dict_itemiterator", data := .fields #[.none, .bool false, .ref d, .int 0 0, .int kvs.length 0, .int ep 0, .none, .none] } = H1 at hns3 hsb3 ⊢
  have z1 : H1.objs.size = s₁.heap.objs.size + 1 := by rw [← hH1, Heap.size_push]
  have hit1 : IsItemIter H1 s₁.heap.objs.size d 0 kvs.length ep .none .none := by rw [← hH1]; exact Heap.get?_push_size _ rfl
  have k1 : ∀ b o, s₁.heap.get? b = some o → H1.get? b = some o := fun b o e => hH1 ▸ Heap.get?_push_of_some _ e
  have hnew : (H1.push { cls := .type "dict", dict := none, data := .dict #[] }).DictOf (strKind prog w) H1.objs.size [] := Heap.DictOf.new H1
  generalize hH2 : H1.push { cls := .type "dict", dict := none, data := .dict #[] } = H2 at hns3 hsb3 hnew ⊢
  have z2 : H2.objs.size = s₁.heap.objs.size + 2 := by rw [← hH2, Heap.size_push, z1]
  have k12 : ∀ b o, H1.get? b = some o → H2.get? b = some o := fun b o e => hH2 ▸ Heap.get?_push_of_some _ e
  have k23 : ∀ b o, H2.get? b = some o → h3.get? b = some o := fun b o e => hsb3.extBut b o (Nat.ne_of_lt (Heap.lt_size e)) (Heap.get?_push_of_some _ e)
  have k03 : ∀ b o, s₁.heap.get? b = some o → h3.get? b = some o := fun b o e => k23 b o (k12 b o (k1 b o e))
  have hold : ∀ k l, (k, Value.ref l) ∈ kvs → l < s₁.heap.objs.size := fun k l hm => by
    obtain ⟨n, js, _, _, _, hl⟩ := hr.mem hm
    exact hl.lt
  have hkn : (compEnvC scope [(tn, c)] H2.objs.size env).scope.kind = .function := by simp [compEnvC, relabel, hkind]
  have hit3 : IsItemIter h3 s₁.heap.objs.size d 0 kvs.length ep .none .none := k23 _ _ (k12 _ _ hit1)
  have hIS : s₁.heap.objs.size < H1.objs.size := by rw [z1]; exact Nat.lt_succ_self _
  have hSC : H1.objs.size < H2.objs.size := by rw [z1, z2]; exact Nat.lt_succ_self _
  refine codeAny_compStart_dict ?_ ?_
  all_goals first
    | refine dictLoop (A := A) (s := { s₁ with heap := h3, toks := _ }) (kvs := kvs) (D := D) (base := s₁.heap.objs.size) (cenv := compEnvC scope [(tn, c)] H2.objs.size env) (T := T) (t := t) (c := c) hh (hr.at fun b _ o e => k03 b o e) hDl hDn
        (lookup_relabel_local hxa) (lookup_relabel_local hxb) (hxt _) hab hkn hda hdb hdt (by simp [compEnvC]) (let ⟨o, e, r⟩ := hcell; ⟨o, k03 _ _ e, r⟩) (hT.at fun o e => k03 _ o e) hTn hold hdl hcell.lt hT.lt (Nat.le_refl _) hIS hSC hit3
        (hat.at' fun o e => k03 _ o e) hns3 (hnew.at fun o e => k23 _ o e) (fun h4 tk4 dr4 m4 kvs4 ns4 S4 R4 ab4 k4 => ?_)
    | refine kcp_self (s := { s₁ with heap := h3, toks := _ }) hit3 ?_
  · show wpAny _ A (assign (.Name y py) env (.ref H1.objs.size)) _ _ _
    have ab4' : ∀ k l, (k, Value.ref l) ∈ kvs4 → H2.objs.size + 1 ≤ l := fun k l hm => ab4 k l hm
    have hlL : env.locals < s₁.heap.objs.size := hml.lt
    refine wpAny_assign_Name (wpAny_storeName_local (s := { s₁ with heap := h4, toks := tk4, drawn := dr4 }) hy (hml.at' fun o e => k4 _ o hlL (k03 _ o e)) (fun h5 hn5 hs5 => ?_) hp)
    have hLC : env.locals ≠ H2.objs.size := Nat.ne_of_lt (Nat.lt_trans hlL (Nat.lt_trans hIS hSC))
    have hLS : H1.objs.size ≠ env.locals := Ne.symm (Nat.ne_of_lt (Nat.lt_trans hlL hIS))
    refine ⟨m4, ns4.sameBut hs5 (Ne.symm hLC), fun h6 hs6 => ?_⟩
    have k46 : ∀ b o, b ≠ env.locals → b ≠ H2.objs.size → h4.get? b = some o → h6.get? b = some o := fun b o q1 q2 e => (hs6.2 b q2).trans ((hs5.2 b q1).trans e)
    refine hQ H1.objs.size h6 (tk4 + 1) dr4 kvs4 (by rw [z1]; exact Nat.le_succ _) (fun b o q e => ?_) (hn5.sameBut hs6 hLC) (S4.at fun o e => k46 _ o hLS (Nat.ne_of_lt hSC) e) (R4.above ab4' fun b hb o e => k46 b o (Ne.symm (Nat.ne_of_lt (Nat.lt_of_lt_of_le (Nat.lt_trans hlL (Nat.lt_trans hIS hSC)) (Nat.le_of_lt hb)))) (Ne.symm (Nat.ne_of_lt hb)) e)
      (fun k l hm => Nat.le_trans (by rw [z2]; exact Nat.le_succ_of_le (Nat.le_add_right _ _)) (ab4' k l hm))
    have hb := Heap.lt_size e
    exact k46 b o q (Nat.ne_of_lt (Nat.lt_trans hb (Nat.lt_trans hIS hSC))) (k4 b o hb (k03 b o e))
  · refine dictLoop (A := A) (s := { s₁ with heap := h3, toks := _ }) (kvs := kvs) (D := D) (base := s₁.heap.objs.size) (cenv := compEnvC scope [(tn, c)] H2.objs.size env) (T := T) (t := t) (c := c) hh (hr.at fun b _ o e => k03 b o e) hDl hDn
        (lookup_relabel_local hxa) (lookup_relabel_local hxb) (hxt _) hab hkn hda hdb hdt (by simp [compEnvC]) (let ⟨o, e, r⟩ := hcell; ⟨o, k03 _ _ e, r⟩) (hT.at fun o e => k03 _ o e) hTn hold hdl hcell.lt hT.lt (Nat.le_refl _) hIS hSC hit3
        (hat.at' fun o e => k03 _ o e) hns3 (hnew.at fun o e => k23 _ o e) (fun h4 tk4 dr4 m4 kvs4 ns4 S4 R4 ab4 k4 => ?_)
    show wpAny _ A (assign (.Name y py) env (.ref H1.objs.size)) _ _ _
    have ab4' : ∀ k l, (k, Value.ref l) ∈ kvs4 → H2.objs.size + 1 ≤ l := fun k l hm => ab4 k l hm
    have hlL : env.locals < s₁.heap.objs.size := hml.lt
    refine wpAny_assign_Name (wpAny_storeName_local (s := { s₁ with heap := h4, toks := tk4, drawn := dr4 }) hy (hml.at' fun o e => k4 _ o hlL (k03 _ o e)) (fun h5 hn5 hs5 => ?_) hp)
    have hLC : env.locals ≠ H2.objs.size := Nat.ne_of_lt (Nat.lt_trans hlL (Nat.lt_trans hIS hSC))
    have hLS : H1.objs.size ≠ env.locals := Ne.symm (Nat.ne_of_lt (Nat.lt_trans hlL hIS))
    refine ⟨m4, ns4.sameBut hs5 (Ne.symm hLC), fun h6 hs6 => ?_⟩
    have k46 : ∀ b o, b ≠ env.locals → b ≠ H2.objs.size → h4.get? b = some o → h6.get? b = some o := fun b o q1 q2 e => (hs6.2 b q2).trans ((hs5.2 b q1).trans e)
    refine hQ H1.objs.size h6 (tk4 + 1) dr4 kvs4 (by rw [z1]; exact Nat.le_succ _) (fun b o q e => ?_) (hn5.sameBut hs6 hLC) (S4.at fun o e => k46 _ o hLS (Nat.ne_of_lt hSC) e) (R4.above ab4' fun b hb o e => k46 b o (Ne.symm (Nat.ne_of_lt (Nat.lt_of_lt_of_le (Nat.lt_trans hlL (Nat.lt_trans hIS hSC)) (Nat.le_of_lt hb)))) (Ne.symm (Nat.ne_of_lt hb)) e)
      (fun k l hm => Nat.le_trans (by rw [z2]; exact Nat.le_succ_of_le (Nat.le_add_right _ _)) (ab4' k l hm))
    have hb := Heap.lt_size e
    exact k46 b o q (Nat.ne_of_lt (Nat.lt_trans hb (Nat.lt_trans hIS hSC))) (k4 b o hb (k03 b o e))
end
end Mine
namespace Mine
open PySem PySem.W PyProof.Rows PySem.Calls

section
variable {prog : Program} {w : World} {A : Around} {E : Value → Shared → Prop} {s : Shared} {h₀ h h' : Heap} {L d : Addr} {kvs : List (Str × Value)} {D : List (Nat × List Nat)}

/-- the third statement: something may go -/
theorem solve3 {t : Addr} {T : List Nat} {Q : Flow → Shared → Prop} (hc : s.heap.IsCell (L + 1) (some (.ref t))) (hT : NS prog w s.heap t T) (hne : T ≠ [])
    (hQ : ∀ tk, Q .next { s with toks := tk }) : wpAny (model prog w) A (exec (solveSt 2) (eSolve L)) Q E s := by
  refine wpAny_If (isTrue_not (isTrue_plain (tLd hc (truthySet hT.1 (by rw [List.length_map]; have := hT.len; omega) fun tk => ?_))))
  have : ((T.map nm).isEmpty) = false := by cases T with
    | nil => exact absurd rfl hne
    | cons _ _ => rfl
  rw [this]
  exact wpAny_execs_nil (hQ tk)

/-- the fourth statement -/
theorem solve4 {t : Addr} {T : List Nat} {Q : Flow → Shared → Prop} (hh : A.handled = none) (x : Slv prog w h₀ L d kvs D s) (hc : s.heap.IsCell (L + 1) (some (.ref t))) (hT : NS prog w s.heap t T) (hne : T ≠ [])
    (hQ : ∀ d' kvs' s', Gmv [L] s s' → Slv prog w h₀ L d' kvs' (less T D) s' → s.heap.objs.size ≤ d' → (∀ l ∈ refsOf kvs', s.heap.objs.size ≤ l) → s'.heap.get? (L + 1) = s.heap.get? (L + 1) → Q .next s') :
    wpAny (model prog w) A (exec (solveSt 3) (eSolve L)) Q No s := by
  obtain ⟨m, hm, hmd⟩ := x.ns
  refine dictAssignSub (c := L + 1) (tn := "t") hh (by rfl) (by rfl) (by decide) (by rfl) (by decide) (by rfl) (by rfl) (fun _ => by rfl) (by decide) (by decide) (by decide) (by decide) (by rfl) (by rfl)
    (MethodCall_ (depLd x.ns (getMethod_builtin x.dic.typeIs PySem.F.plainAttrs_dict PySem.F.slot_dict_items PySem.F.type_dict_items x.dic.mapOf.noDict (callWith_method0 (callItems x.hd.1 x.dic fun vw h1 ev k1 hvw => ?_)))))
  have hvl : s.heap.objs.size < h1.objs.size := by
    have : vw < h1.objs.size := let ⟨_, ho, _⟩ := hvw; Heap.lt_size ho
    exact ev ▸ this
  refine ⟨vw, d, kvs, D, t, T, m, rfl, hvw, x.dic.at fun o e => k1 _ o e, x.rel.within fun l _ o e => k1 l o e, x.len, x.nodup, let ⟨o, e, r⟩ := hc; ⟨o, k1 _ _ e, r⟩, hT.at fun o e => k1 _ o e, hne, hm.keeps k1, fun nd h2 tk dr kvs' hnd k2 hn2 D2 R2 ab2 => ?_⟩
  have k12 : ∀ b o, b ≠ L → s.heap.get? b = some o → h2.get? b = some o := fun b o hb e => k2 b o hb (k1 b o e)
  have hge : s.heap.objs.size ≤ nd := Nat.le_of_lt (Nat.lt_of_lt_of_le hvl hnd)
  have hLs : L < s.heap.objs.size := hm.lt
  have hL1 : L + 1 < s.heap.objs.size := let ⟨o, e, _⟩ := hc; Heap.lt_size e
  have apart : ∀ b, s.heap.objs.size ≤ b → b ∉ [16, L, L + 1] := fun b hb hmem => by
    rcases List.mem_cons.mp hmem with q | hmem
    · exact Nat.lt_irrefl _ (Nat.lt_of_lt_of_le (q ▸ x.sv.lt16) hb)
    · rcases List.mem_cons.mp hmem with q | hmem
      · exact Nat.lt_irrefl _ (Nat.lt_of_lt_of_le (q ▸ hLs) hb)
      · have q := List.mem_singleton.mp hmem
        exact Nat.lt_irrefl _ (Nat.lt_of_lt_of_le (q ▸ hL1) hb)
  have gm : Gmv [L] s { s with heap := h2, toks := tk, drawn := dr } := Gmv.here fun b o hb e => k12 b o (fun q => hb (q ▸ .head _)) e
  refine hQ nd kvs' _ gm ⟨x.sv.off [L] (fun b hb => by rw [List.mem_singleton.mp hb]; exact x.new.1) fun b o hb e => k12 b o (fun q => hb (q ▸ .head _)) e, ⟨_, hn2, by simp⟩, ?_, D2, R2, ?_, ?_, ⟨x.sv.gn.glo.notSys hge, apart nd hge⟩, ?_, x.new⟩ hge (fun l hl => ?_) ?_
  · exact ⟨_, let ⟨o, e, r⟩ := hc; ⟨o, k12 _ _ (Nat.succ_ne_self L) e, r⟩⟩
  · refine Nat.le_trans ?_ x.len
    unfold less
    rw [List.length_map]
    exact List.length_filter_le _ _
  · unfold less
    rw [List.map_map]
    have : ((fun p : Nat × List Nat => p.1) ∘ fun p : Nat × List Nat => (p.1, p.2.filter fun j => !decide (j ∈ T))) = fun p => p.1 := rfl
    rw [this]
    exact List.Nodup.sublist (List.Sublist.map _ List.filter_sublist) x.nodup
  · intro l hl
    obtain ⟨k, hk⟩ := refsOf_mem.mp hl
    exact apart l (Nat.le_of_lt (Nat.lt_of_lt_of_le hvl (ab2 k l hk)))
  · obtain ⟨k, hk⟩ := refsOf_mem.mp hl
    exact Nat.le_of_lt (Nat.lt_of_lt_of_le hvl (ab2 k l hk))
  · obtain ⟨o, e, _⟩ := hc
    rw [e]; exact k12 _ _ (Nat.succ_ne_self L) e
end
end Mine
namespace Mine
open PySem PySem.W PyProof.Rows PySem.Calls

section
variable {prog : Program} {w : World} {A : Around} {E : Value → Shared → Prop} {s : Shared} {h₀ h h' : Heap} {L d : Addr} {kvs : List (Str × Value)} {D : List (Nat × List Nat)}

theorem joinExpr {env : Env} {sep : Str} {kc : Nat} {cp ap jp : Pos} {x : Str} {px pr pa pc : Pos} {iter : Expr} {scope : Scope} {pos : Pos} {pl : Sem Bool} {Q : Value → Shared → Prop} (hsep : sep.length ≤ 64)
    (hh : A.handled = none) (hg : A.guards = some []) (hu : A.units + 60 < cLine)
    (hco : scope.isCoroutine = false) (hclos : closureFor scope env = pure []) (hcell : ∀ y ∈ scope.names, y.2 ≠ .cell) (h0 : scope.names.lookup (".0" : Str) = some NameKind.local)
    (hx : scope.names.lookup x = some .local) (hxr : scope.names.lookup (Str.ofString "repr") = some .globalImplicit) (hkind : scope.kind = .function) (hroom : A.depth < recursionLimit)
    (hdx : (x == ("__debug__" : Str)) = false) (hcode : env.code = .ref 18) (hgl : env.globals = mainGlobals)
    (h : wpAny (model prog w) A (eval iter env) (fun xv s₁ => ∃ vw d kvs D, xv = .ref vw ∧ s₁.heap.IsItemsView vw d ∧ s₁.heap.DictOf (strKind prog w) d kvs ∧ SRel prog w s₁.heap kvs D ∧ D.length ≤ 7 ∧ Sv h₀ s₁.heap ∧ (16 : Addr) ∉ refsOf kvs ∧ d ≠ 16 ∧
      ∀ s' y t', Gmv [16] s₁ s' → Sv h₀ s'.heap → y.length ≤ 1000000 → Q (.str y t') s') No { s with toks := s.toks + 1 })
    (hs : ∀ x, genFold iter env x = pure x := by intro _; rfl)
    (he : eval (.Call (.Attribute (.Constant (.str sep) kc cp) (Str.ofString "join") ap) [(.GeneratorExp (.Call (.Name "repr" pr) [.Name x pa] [] pc) [⟨.Name x px, iter, [], 0⟩] scope pos)] [] jp) env = (do
      let ov ← eval (.Constant (.str sep) kc cp) env
      standAt ap.atName
      let (f, first) ← holding [ov] (getMethod ov (Str.ofString "join") pl)
      callWith jp f first (backTo jp (starEach [(.GeneratorExp (.Call (.Name "repr" pr) [.Name x pa] [] pc) [⟨.Name x px, iter, [], 0⟩] scope pos)] env)) []) := by rfl) :
    wpAny (model prog w) A (eval (.Call (.Attribute (.Constant (.str sep) kc cp) (Str.ofString "join") ap) [.GeneratorExp (.Call (.Name "repr" pr) [.Name x pa] [] pc) [⟨.Name x px, iter, [], 0⟩] scope pos] [] jp) env) Q No s := by
  refine MethodCall_ ?_ he
  refine wpAny_Constant_str ?_
  have hd0 : ∀ (tk : Tok) (sh : Shared) (b : Addr), Value.str sep tk = .ref b → ∃ o, sh.heap.get? b = some o ∧ o.dict = none := fun _ _ _ q => Value.noConfusion q
  refine getMethod_builtin (T := "str") (id := "str.join") ?_ ?_ ?_ ?_ ?_ ?_
  · exact typeIs_str _ _ _
  · exact PySem.F.plainAttrs_str
  · exact PySem.F.slot_str_join
  · exact PySem.F.type_str_join
  · exact hd0 _ _
  refine callWith_method1 ?_
  refine spliced_more ?_
  refine genReps (h₀ := h₀) (Ag := A.in1.in1.in1) hh hh hg (by simp only [Around.in1_units]; omega) hco hclos hcell h0 hx hxr hkind hroom hdx hcode hgl (wpAny_mono h (fun xv s₁ h₁ => ?_) fun _ _ f => f) hs
  obtain ⟨vw, d, kvs, D, rfl, hv, hD, hr, hDl, hsv, h16, hd16, hQ⟩ := h₁
  refine ⟨vw, d, kvs, D, rfl, hv, hD, hr, hDl, hsv, h16, hd16, fun a h5 tk gs C I hb k5 sv5 ha hC hI laa lC lI aC aI st => spliced_none ?_⟩
  have hkl := hr.length
  obtain ⟨mc, hcs, _⟩ := hsv.gn.glo.nolimit
  have hcst : cStatics < s₁.heap.objs.size := hcs.lt
  refine joinReps (s := { s₁ with gens := s₁.gens.push gs, toks := tk, heap := h5 }) (a := a) (C := C) (I := I) (g := s₁.gens.size) (n := kvs.length) hsep hh hroom aC aI (Nat.ne_of_lt (Nat.lt_of_lt_of_le hcst hC)) (Nat.ne_of_lt (Nat.lt_of_lt_of_le hcst hI)) laa lC lI (Nat.lt_of_lt_of_le hcst (Nat.le_of_lt (Nat.lt_of_le_of_lt hC lC))) (by omega) st fun s' y t' hm hy => ?_
  refine hQ s' y t' (Gmv.fresh hb (fun b o q e => hm.heap b o (fun hmem => ?_) (k5 b o (fun z => q (z ▸ .head _)) e)) hm.gens hm.os) (sv5.off [C, I] (fun b hb => ?_) hm.heap) hy
  · rcases List.mem_cons.mp hmem with z | z
    · rw [z, get_none hC] at e; cases e
    · rw [List.mem_singleton.mp z, get_none hI] at e; cases e
  · rcases List.mem_cons.mp hb with z | z
    · rw [z]; exact hsv.none hC
    · rw [List.mem_singleton.mp z]; exact hsv.none hI

/-- the third statement: nothing may go -/
theorem solve3r {t : Addr} {Q : Flow → Shared → Prop} (hh : A.handled = none) (hg : A.guards = some []) (hu : A.units + 60 < cLine) (hroom : A.depth < recursionLimit) (x : Slv prog w h₀ L d kvs D s) (hc : s.heap.IsCell (L + 1) (some (.ref t))) (hT : NS prog w s.heap t [])
    (hE : ∀ s' h' e vs, Gmv [16] s s' → Sv h₀ s'.heap → Heap.MadeExc s'.heap h' e "ValueError" vs → E (.ref e) { s' with heap := h' }) : wpAny (model prog w) A (exec (solveSt 2) (eSolve L)) Q E s := by
  have h16 : (16 : Addr) ∉ refsOf kvs := fun hm => x.hr 16 hm (.head _)
  have hd16 : d ≠ 16 := fun e => x.hd.2 (e ▸ .head _)
  refine wpAny_If (isTrue_not (isTrue_plain (tLd hc (truthySet hT.1 (by simp) fun tk => ?_))))
  show wpAny _ A (execs _ (eSolve L)) Q E _
  refine wpAny_execs_cons ?_
  refine Raise_madeB PySem.F.excCall_ValueError PySem.F.excRaise_ValueError hh (nmB (s := { s with toks := tk }) x.sv.gn.glo (fun _ _ k => ⟨k.ve0, k.ve1⟩) ⟨rfl, ?_⟩)
  refine spliced_more ?_
  refine wpAny_BinOp ?_
  refine wpAny_Constant_str ?_
  refine wpAny_mono (joinExpr (s := { s with toks := _ }) (h₀ := h₀) (by decide) hh hg hu (by rfl) (by rfl) (by decide) (by rfl) (by rfl) (by rfl) (by rfl) hroom (by decide) (by rfl) (by rfl) (Q := fun v s₂ => wpAny (model prog w) A (binaryOp .Add (.str _ _) v) (fun v s₃ => _) E s₂)
    (MethodCall_ (depLd (s := { s with toks := _ }) x.ns (getMethod_builtin x.dic.typeIs PySem.F.plainAttrs_dict PySem.F.slot_dict_items PySem.F.type_dict_items x.dic.mapOf.noDict (callWith_method0 (callItems (s := { s with toks := _ }) x.hd.1 x.dic fun vw h1 ev k1 hvw => ?_)))))) (fun _ _ q => q) fun _ _ f => f.elim
  refine ⟨vw, d, kvs, D, rfl, hvw, x.dic.at fun o e => k1 _ o e, x.rel.within fun l _ o e => k1 l o e, x.len, x.sv.keeps k1, h16, hd16, fun s' y t' gm sv' hy => ?_⟩
  refine add_str (fun t2 tk2 => ?_) ?_
  · refine spliced_none ⟨show 1 ≤ sizeLine by decide, fun h' e hx => ?_⟩
    exact hE { s' with toks := _ } h' e _ (Gmv.trans (Gmv.here (W := [16]) fun b o _ e => k1 b o e) ⟨gm.heap, gm.bare, gm.size, gm.same, gm.os⟩) sv' hx
  · exact Nat.le_trans (Nat.add_le_add (show _ ≤ 100 by decide) hy) (by decide)
end
end Mine
namespace Mine
open PySem PySem.W PyProof.Rows PySem.Calls

abbrev solveWh : Stmt := (fbody dSolve).getD 0 (.Pass default)
abbrev whCode (L : Addr) : Code := .whileLoop (whTest solveWh) solveW [] (eSolve L)

/-- what the generator tells with each lot, and what it asks of who takes it -/
def solveProto (prog : Program) (w : World) (h₀ : Heap) (L L0 : Addr) (Wc : List Addr) (lots : List (List Nat)) : Protocol := fun m s₀ v s kap =>
  (∃ t T X, v = .ref t ∧ NS prog w s.heap t T ∧ lots[lots.length - 1 - m]? = some X ∧ ∀ n, n ∈ T ↔ n ∈ X) ∧ Gmv [16, L, L + 1] s₀ s ∧ Sv h₀ s.heap ∧ (∀ b ∈ [L, L + 1], ∃ o, s.heap.get? b = some o) ∧
    ∀ s'', (∀ b o, b ∉ Wc → s.heap.get? b = some o → s''.heap.get? b = some o) → (∃ m, s''.heap.Ns L0 m) → kap (.send .none) s''

section
variable {prog : Program} {w : World} {A : Around} {s : Shared} {h₀ : Heap} {L : Addr} {R : GenEnd}

theorem seg_round12 {Y : Protocol} {n : Nat} {s₀ : Shared} {c : Code} {fs : List Frame} {K : Flow → Sem Fin} {H : Value → Sem Fin} {gd : Bool → Bool} {lv : List Value → List Value} {d : Addr} {kvs : List (Str × Value)} {D : List (Nat × List Nat)}
    (hh : (A.over c fs).handled = none) (hroom : (A.over c fs).depth < recursionLimit) (x : Slv prog w h₀ L d kvs D s)
    (k : ∀ t T s2, Gmv [16, L, L + 1] s s2 → Slv prog w h₀ L d kvs D s2 → s2.heap.IsCell (L + 1) (some (.ref t)) → NS prog w s2.heap t T → (∀ n, n ∈ T ↔ goes D n = true) → s.heap.objs.size ≤ t →
      Seg (model prog w) A R Y n s₀ c ((execs [solveSt 2, solveSt 3, solveSt 4] (eSolve L)).wrap K H gd lv) fs s2) :
    Seg (model prog w) A R Y n s₀ c ((execs solveW (eSolve L)).wrap K H gd lv) fs s := by
  obtain ⟨m, hm, hmd⟩ := x.ns
  obtain ⟨v0, hc0⟩ := x.cell
  have hLs : L < s.heap.objs.size := hm.lt
  have hL1 : L + 1 < s.heap.objs.size := let ⟨o, e, _⟩ := hc0; Heap.lt_size e
  have hcst : cStatics < s.heap.objs.size := let ⟨mc, hn, _⟩ := x.sv.gn.glo.nolimit; hn.lt
  have hdl := dict_lt x.dic
  have hrl : ∀ l ∈ refsOf kvs, l < s.heap.objs.size := fun l hl => by
    obtain ⟨k, hk⟩ := refsOf_mem.mp hl
    obtain ⟨n, js, _, _, _, hns⟩ := x.rel.mem hk
    exact hns.lt
  refine seg_execs_cons (seg_wrap (wpAny_mono (solve1 hh x fun t h2 tk2 dr2 T k2 ht2 hc2 hT2 mT => ?_) (fun _ _ q => q) fun _ _ f => f.elim))
  have tne : ∀ {b : Addr}, b < s.heap.objs.size → t ≠ b := fun {b} hb q => Nat.lt_irrefl _ (Nat.lt_of_lt_of_le (q ▸ hb) ht2)
  have x2 : Slv prog w h₀ L d kvs D { s with heap := h2, toks := tk2, drawn := dr2 } := x.move (fun b o hb e => k2 b o (fun q => hb (q ▸ .tail _ (.tail _ (.head _)))) e)
    (x.sv.off [L + 1] (fun b hb => by rw [List.mem_singleton.mp hb]; exact x.new.2) fun b o hb e => k2 b o (fun q => hb (q ▸ .head _)) e) ⟨m, hm.at' fun o e => k2 _ o (Nat.ne_of_lt (Nat.lt_succ_self L)) e, hmd⟩ ⟨_, hc2⟩
  have g2 : Gmv [16, L, L + 1] s { s with heap := h2, toks := tk2, drawn := dr2 } := Gmv.here fun b o hb e => k2 b o (fun q => hb (q ▸ .tail _ (.tail _ (.head _)))) e
  refine seg_execs_cons (seg_wrap (wpAny_mono (solve2 (s := { s with heap := h2, toks := tk2, drawn := dr2 }) hh hroom x2 hc2 hT2 (fun hmem => ?_) (fun hmem => tne (hrl _ hmem) rfl) (x.sv.none ht2) fun s3 T' g3 sv3 nT' mT' => ?_) (fun _ _ q => q) fun _ _ f => f.elim))
  · rcases List.mem_cons.mp hmem with q | hmem
    · exact tne x.sv.lt16 q
    · rcases List.mem_cons.mp hmem with q | hmem
      · exact tne hcst q
      · rcases List.mem_cons.mp hmem with q | hmem
        · exact tne hdl q
        · rcases List.mem_cons.mp hmem with q | hmem
          · exact tne hLs q
          · exact tne hL1 (List.mem_singleton.mp hmem)
  · have keep3 : ∀ b o, b ≠ 16 → b ≠ t → h2.get? b = some o → s3.heap.get? b = some o := fun b o q1 q2 e => g3.heap b o (fun hmem => by
      rcases List.mem_cons.mp hmem with q | q
      · exact q1 q
      · exact q2 (List.mem_singleton.mp q)) e
    have L16 : L ≠ 16 := fun q => by
      obtain ⟨_, hcd⟩ := x.sv.g0.code
      obtain ⟨_, _, _, _, _, _, _, _, _, op, _, _, _, _, _, _, _, e2, _⟩ := hcd
      have := x.new.1; rw [q, e2] at this; cases this
    have L16' : L + 1 ≠ 16 := fun q => by
      obtain ⟨_, hcd⟩ := x.sv.g0.code
      obtain ⟨_, _, _, _, _, _, _, _, _, op, _, _, _, _, _, _, _, e2, _⟩ := hcd
      have := x.new.2; rw [q, e2] at this; cases this
    have x3 : Slv prog w h₀ L d kvs D s3 := by
      refine ⟨sv3, ?_, ?_, x2.dic.at fun o e => keep3 _ o (fun q => x.hd.2 (q ▸ .head _)) (Ne.symm (tne hdl)) e, x2.rel.within fun l hl o e => keep3 l o (fun q => x.hr l hl (q ▸ .head _)) (Ne.symm (tne (hrl l hl))) e, x.len, x.nodup, x.hd, x.hr, x.new⟩
      · obtain ⟨m2, hm2, e2⟩ := x2.ns
        exact ⟨m2, hm2.at' fun o e => keep3 _ o L16 (Ne.symm (tne hLs)) e, e2⟩
      · obtain ⟨v2, o, e, r⟩ := x2.cell
        exact ⟨v2, o, keep3 _ _ L16' (Ne.symm (tne hL1)) e, r⟩
    have g13 : Gmv [16, L, L + 1] s s3 := by
      refine ⟨fun b o hb e => ?_, fun h => g3.bare (g2.bare h), Nat.le_trans g2.size g3.size, fun i hi => (g3.same i (Nat.lt_of_lt_of_le hi g2.size)).trans (g2.same i hi), g3.os.trans g2.os⟩
      exact keep3 b o (fun q => hb (q ▸ .head _)) (fun q => tne (Heap.lt_size e) q.symm) (k2 b o (fun q => hb (q ▸ .tail _ (.tail _ (.head _)))) e)
    refine k t T' s3 g13 x3 (let ⟨o, e, r⟩ := hc2; ⟨o, keep3 _ _ L16' (Ne.symm (tne hL1)) e, r⟩) nT' (fun n => ?_) ht2
    rw [mT', mT, goes_iff]

theorem segSolve {fs : List Frame} {L0 : Addr} {Wc : List Addr} {lots : List (List Nat)} {refused : Bool} (hfs : splitAtGen fs = none) (hfg : fs.any Frame.guarded = false)
    (hh : (A.over (whCode L) fs).handled = none) (hg : (A.over (whCode L) fs).guards = some []) (hu : (A.over (whCode L) fs).units + 60 < cLine) (hroom : (A.over (whCode L) fs).depth < recursionLimit)
    (hW : ∀ b ∈ Wc, b < L ∧ b ≠ 16 ∧ h₀.get? b = none)
    (hend : ∀ s₀ s, refused = false → Gmv [16, L, L + 1] s₀ s → Sv h₀ s.heap → Seg (model prog w) A R (solveProto prog w h₀ L L0 Wc lots) 0 s₀ (whCode L) (.pure (.done .next)) fs s)
    (hfail : ∀ s₀ s h' e vs, refused = true → (∃ m, s₀.heap.Ns L0 m) → Gmv [16, L, L + 1] s₀ s → Sv h₀ s.heap → (∃ m, s.heap.Ns L m) → Heap.MadeExc s.heap h' e "ValueError" vs →
      Seg (model prog w) A R (solveProto prog w h₀ L L0 Wc lots) 0 s₀ (whCode L) ((do noteFrame (.ref e) (eSolve L); theTreesLotGoes (.ref e) : Sem Unit).wrap (fun _ => .raise (.ref e)) .raise id id) fs { s with heap := h' }) :
    ∀ {D : List (Nat × List Nat)} {ls : List (List Nat)} {b : Bool}, Runs D ls b → b = refused → ∀ (pre : List (List Nat)), lots = pre ++ ls → ∀ (d : Addr) (kvs : List (Str × Value)) (s₀ s : Shared), (∃ m, s₀.heap.Ns L0 m) → Slv prog w h₀ L d kvs D s → d ∉ Wc → (∀ l ∈ refsOf kvs, l ∉ Wc) → Gmv [16, L, L + 1] s₀ s →
      Seg (model prog w) A R (solveProto prog w h₀ L L0 Wc lots) ls.length s₀ (whCode L) ((model prog w).den (whCode L)) fs s := by
  intro D ls b hr
  induction hr with
  | done =>
    intro hb pre hp d kvs s₀ s hn0 x hd hrf gm
    have hk : kvs = [] := List.length_eq_zero_iff.mp x.rel.length
    refine seg_whileLoop (isTrue_plain (depLd x.ns (wpAny_truthy_dict (knd := strKind prog w) x.hd.1 x.dic (by rw [hk]; decide) ?_)))
    subst hk
    show (if false = true then _ else _)
    rw [if_neg Bool.false_ne_true]
    exact seg_execs_nil (hend s₀ _ hb.symm (gm.trans (Gmv.here fun _ _ _ e => e)) x.sv)
  | @stuck D hne hl =>
    intro hb pre hp d kvs s₀ s hn0 x hd hrf gm
    have hk : kvs.isEmpty = false := by
      cases q : kvs with
      | nil => have := x.rel.length; rw [q] at this; exact absurd (List.length_eq_zero_iff.mp this.symm) hne
      | cons _ _ => rfl
    have hkl : (kvs.length : Int) < 2 ^ 63 := by have := x.rel.length; have := x.len; omega
    refine seg_whileLoop (isTrue_plain (depLd x.ns (wpAny_truthy_dict (knd := strKind prog w) x.hd.1 x.dic hkl ?_)))
    rw [hk]
    show (if true = true then _ else _)
    rw [if_pos rfl]
    have x1 : Slv prog w h₀ L d kvs D { s with toks := s.toks + 1 + 1 } := x.move (fun _ _ _ e => e) x.sv x.ns x.cell
    refine seg_round12 hh hroom x1 fun t T s2 g2 x2 hc2 hT2 mT ht2 => ?_
    have hT0 : T = [] := List.eq_nil_iff_forall_not_mem.mpr fun n hn => by
      have : n ∈ lotOf D := List.mem_filter.mpr ⟨List.mem_range.mpr (hT2.2 n hn), (mT n).mp hn⟩
      rw [hl] at this; cases this
    subst hT0
    have g02 : Gmv [16, L, L + 1] s₀ s2 := gm.trans ((Gmv.here fun _ _ _ e => e).trans g2)
    have L16 : L ≠ 16 := fun q => by
      obtain ⟨_, hcd⟩ := x.sv.g0.code
      obtain ⟨_, _, _, _, _, _, _, _, _, op, _, _, _, _, _, _, _, e2, _⟩ := hcd
      have := x.new.1; rw [q, e2] at this; cases this
    refine seg_execs_cons (seg_wrap (solve3r hh hg hu hroom x2 hc2 hT2 fun s3 h3 e vs g3 sv3 hx => ?_))
    refine hfail s₀ s3 h3 e vs hb.symm hn0 (g02.trans (g3.mono fun b hb => .inl (by rw [List.mem_singleton.mp hb]; exact .head _))) sv3 ?_ hx
    obtain ⟨m, hm, _⟩ := x2.ns
    exact ⟨m, hm.at' fun o e => g3.heap _ o (fun hm => L16 (List.mem_singleton.mp hm)) e⟩
  | @step D ls b hne hl hrun ih =>
    intro hb pre hp d kvs s₀ s hn0 x hd hrf gm
    have hk : kvs.isEmpty = false := by
      cases q : kvs with
      | nil => have := x.rel.length; rw [q] at this; exact absurd (List.length_eq_zero_iff.mp this.symm) hne
      | cons _ _ => rfl
    have hkl : (kvs.length : Int) < 2 ^ 63 := by have := x.rel.length; have := x.len; omega
    refine seg_whileLoop (isTrue_plain (depLd x.ns (wpAny_truthy_dict (knd := strKind prog w) x.hd.1 x.dic hkl ?_)))
    rw [hk]
    show (if true = true then _ else _)
    rw [if_pos rfl]
    have x1 : Slv prog w h₀ L d kvs D { s with toks := s.toks + 1 + 1 } := x.move (fun _ _ _ e => e) x.sv x.ns x.cell
    refine seg_round12 hh hroom x1 fun t T s2 g2 x2 hc2 hT2 mT ht2 => ?_
    have hTl : ∀ n, n ∈ T ↔ n ∈ lotOf D := fun n => by
      unfold lotOf
      rw [List.mem_filter, List.mem_range, ← mT n]
      exact ⟨fun h => ⟨hT2.2 n h, h⟩, fun h => h.2⟩
    have hTn : T ≠ [] := fun q => by
      obtain ⟨n, hn⟩ := List.exists_mem_of_ne_nil _ hl
      have := (hTl n).mpr hn
      rw [q] at this; cases this
    refine seg_execs_cons (seg_wrap (solve3 hc2 hT2 hTn fun tk3 => ?_))
    have x3 : Slv prog w h₀ L d kvs D { s2 with toks := tk3 } := x2.move (fun _ _ _ e => e) x2.sv x2.ns x2.cell
    refine seg_execs_cons (seg_wrap (wpAny_mono (solve4 (s := { s2 with toks := tk3 }) hh x3 hc2 hT2 hTn fun d' kvs' s4 g4 x4 hd4 hr4 hcell4 => ?_) (fun _ _ q => q) fun _ _ f => f.elim))
    have hless : less T D = nextD D := less_congr fun p _ j _ => hTl j
    rw [hless] at x4
    have hc4 : s4.heap.IsCell (L + 1) (some (.ref t)) := let ⟨o, e, r⟩ := hc2; ⟨o, hcell4.trans e, r⟩
    have g04 : Gmv [16, L, L + 1] s₀ s4 := (gm.trans ((Gmv.here fun _ _ _ e => e).trans g2)).trans ((Gmv.here (tk := tk3) (dr := s2.drawn) fun _ _ _ e => e).trans (g4.mono fun b hb => .inl (by rw [List.mem_singleton.mp hb]; exact .tail _ (.head _))))
    obtain ⟨m0, hm0, _⟩ := x.ns
    have hLs : L < s.heap.objs.size := hm0.lt
    have htL : t ≠ L := fun q => Nat.lt_irrefl _ (Nat.lt_of_lt_of_le (q ▸ hLs) ht2)
    have hT4 : NS prog w s4.heap t T := hT2.at fun o e => g4.heap _ o (fun hm => htL (List.mem_singleton.mp hm)) e
    refine seg_execs_cons (seg_Expr_Yield hfs rfl hfg (tLd hc4 fun kap hkap => ?_))
    refine ⟨⟨t, T, lotOf D, rfl, hT4, ?_, hTl⟩, g04, x4.sv, fun b hb => ?_, fun s'' hal hn0' => hkap .none s'' ?_⟩
    · rw [hp]
      have : (pre ++ lotOf D :: ls).length - 1 - ls.length = pre.length := by simp
      rw [this]; simp
    · rcases List.mem_cons.mp hb with q | hb
      · obtain ⟨_, ⟨o, _, _, ho, _⟩, _⟩ := x4.ns; exact ⟨o, q ▸ ho⟩
      · obtain ⟨_, o, ho, _⟩ := x4.cell; exact ⟨o, (List.mem_singleton.mp hb) ▸ ho⟩
    · show Seg _ A _ _ _ s'' _ ((execs [] (eSolve L)).wrap _ _ _ _) fs s''
      refine seg_execs_nil (seg_again rfl ?_)
      obtain ⟨m4, hm4, e4⟩ := x4.ns
      obtain ⟨v4, hc4'⟩ := x4.cell
      have hLW : ∀ b, L ≤ b → b ∉ Wc := fun b hb hm => Nat.lt_irrefl _ (Nat.lt_of_lt_of_le (hW b hm).1 hb)
      obtain ⟨m2, hm2, _⟩ := x2.ns
      have hL2 : L < s2.heap.objs.size := hm2.lt
      have hdW : d' ∉ Wc := hLW _ (Nat.le_trans (Nat.le_of_lt hL2) hd4)
      have hrW : ∀ l ∈ refsOf kvs', l ∉ Wc := fun l hl => hLW _ (Nat.le_trans (Nat.le_of_lt hL2) (hr4 l hl))
      have x5 : Slv prog w h₀ L d' kvs' (nextD D) s'' := ⟨x4.sv.off Wc (fun b hb => (hW b hb).2.2) hal, ⟨m4, hm4.at' fun o e => hal _ o (hLW _ (Nat.le_refl _)) e, e4⟩, ⟨v4, let ⟨o, e, r⟩ := hc4'; ⟨o, hal _ _ (hLW _ (Nat.le_succ _)) e, r⟩⟩,
        x4.dic.at fun o e => hal _ o hdW e, x4.rel.within fun l hl o e => hal l o (hrW l hl) e, x4.len, x4.nodup, x4.hd, x4.hr, x4.new⟩
      exact ih hb (pre ++ [lotOf D]) (by simp [hp]) d' kvs' s'' s'' hn0' x5 hdW hrW (Gmv.refl _ _)
end
end Mine
namespace Mine
open PySem PySem.W PyProof.Rows PySem.Calls

/-- an error under way: what stands behind it -/
def Flown (L L0 : Addr) (eL : Env) (h h' : Heap) (e : Addr) : Prop :=
  ∃ base a0, Heap.FlyingW base [eL] e (.type "ValueError") a0 h' ∧ (∀ b o, b ≠ L → b ≠ L0 → h.get? b = some o → base.get? b = some o) ∧ h.UpToSlots h'

def solveEnd (h₀ : Heap) (L L0 : Addr) (eL : Env) (refused : Bool) : GenEnd := fun n s₀ r s₁ => n = 0 ∧
  ((refused = false ∧ r = .ok (.ret .none) ∧ Gmv [16, L, L + 1] s₀ s₁ ∧ Sv h₀ s₁.heap) ∨
   (refused = true ∧ ∃ e s h', s₁ = { s with heap := h' } ∧ r = .error (.ref e) ∧ Gmv [16, L, L + 1] s₀ s ∧ Sv h₀ s.heap ∧ (∃ m, s₀.heap.Ns L0 m) ∧ Flown L L0 eL s.heap h' e))

section
variable {M : Model} {A : Around} {E : Value → Shared → Prop} {s : Shared}
theorem noteFrame_first {base : Heap} {env : Env} {outer : List Env} {L e : Addr} {oe : Obj} {vs : Array Value} {a0 : Value} {Q : Unit → Shared → Prop}
    (hfr : A.frames = some (env :: outer)) (hl : s.heap.FunFrames base (env :: outer)) (hf : env.frame = some L)
    (he : s.heap.get? e = some oe) (hkb : base.StaysIn s.heap) (hen : base.get? e = none) (hd : oe.data = .fields vs) (h1 : vs[1]? = some .none) (h0 : vs[0]? = some a0)
    (h : ∀ h', Heap.HeldW base (env :: outer) e oe.cls a0 L h' → s.heap.UpToSlots h' → Q () { s with heap := h' }) : wpAny M A (noteFrame (.ref e) env) Q E s := by
  unfold noteFrame
  simp only [hf]
  refine wpAny_bind (wpAny_field he hd h1 ?_)
  rw [if_neg (by decide)]
  refine wpAny_entryW hfr hl hf he hkb hen hd (Array.getElem?_eq_some_iff.mp h1).1 h0 fun h' hN => ?_
  obtain ⟨k1, k2, k3, k4⟩ := hN
  exact h h' ⟨k1, hen, k2, k3⟩ k4
theorem flight_on {base : Heap} {l : List Env} {e L : Addr} {cls a0 : Value} {Q : Unit → Shared → Prop} (hh : Heap.HeldW base l e cls a0 L s.heap)
    (h : ∀ h', Heap.HeldW base l e cls a0 L h' → s.heap.UpToSlots h' → Q () { s with heap := h' }) : wpAny M A (setFlight (.ref e) (some L)) Q E s := by
  obtain ⟨hkb, hen, hl, oe, vs, T, oT, ts, he, hcls, hd, h1, hnT, hTe, hT, hdT, h3⟩ := hh
  have hsz3 : 3 < ts.size := (Array.getElem?_eq_some_iff.mp h3).1
  have other : ∀ b, b ≠ T → (s.heap.update T (Obj.mapFields (·.setIfInBounds 3 ((some L).elim Value.none fun f => rawInt f)))).get? b = s.heap.get? b :=
    fun b hb => Heap.get?_update_other _ _ (Ne.symm hb)
  have noRecord : ∀ b o, s.heap.get? b = some o → (∀ vs, o.data ≠ .fields vs) → b ≠ T := fun b o hb hnf q => by
    rw [q, hT] at hb; injection hb with hb; subst hb; exact hnf ts hdT
  unfold setFlight
  refine wpAny_bind (wpAny_field he hd h1 ?_)
  rw [if_pos (show (Value.ref T != Value.none) = true from by simp)]
  refine wpAny_setField hT hdT hsz3 (h _ ⟨fun b o hbo => (other b fun q => by rw [q, hnT] at hbo; cases hbo).trans (hkb b o hbo), hen,
    hl.of_keeps fun b o hb hnf => ⟨o, (other b (noRecord b o hb hnf)).trans hb, rfl⟩, ?_⟩ fun b o hb hnf => ⟨o.slots, (other b (noRecord b o hb hnf)).trans hb⟩)
  exact ⟨oe, vs, T, _, _, (other e (Ne.symm hTe)).trans he, hcls, hd, h1, hnT, hTe, Heap.get?_update_self _ hT (Obj.isFreed_of_fields (Obj.data_mapFields hdT _)), Obj.data_mapFields hdT _, by simp [hsz3]⟩
theorem mark_on {base : Heap} {l : List Env} {e L : Addr} {cls a0 : Value} {env : Env} {Q : Unit → Shared → Prop} (hf : env.frame = some L) (hh : Heap.HeldW base l e cls a0 L s.heap)
    (h : ∀ h', Heap.HeldW base l e cls a0 L h' → s.heap.UpToSlots h' → Q () { s with heap := h' }) : wpAny M A (do
    if (← field (.ref e) 1) == Value.none then unsupported "frame.own-activation:exception-without-traceback"
    setFlight (.ref e) env.frame) Q E s := by
  rw [hf]
  obtain ⟨oe, ws, T, oT, ts, he, hc, hd, h1, _⟩ := hh.2.2.2
  refine wpAny_bind (wpAny_field he hd h1 ?_)
  rw [if_neg (show ¬ ((Value.ref T == Value.none) = true) from by simp)]
  first
    | exact flight_on hh h
    | exact wpAny_bind (wpAny_pure (flight_on hh h))
theorem cameBack {base : Heap} {l : List Env} {e L : Addr} {cls a0 : Value} {env : Env} (hf : env.frame = some L) (hh : Heap.HeldW base l e cls a0 L s.heap)
    (h : ∀ h', Heap.HeldW base l e cls a0 L h' → s.heap.UpToSlots h' → E (.ref e) { s with heap := h' }) : cameBackBy M A env E (.ref e) s := mark_on hf hh h
theorem leaves_held {base : Heap} {env : Env} {outer : List Env} {L e : Addr} {cls a0 : Value} {Q : Unit → Shared → Prop} (hf : env.frame = some L)
    (hh : Heap.HeldW base (env :: outer) e cls a0 L s.heap) (hQ : ∀ h', Heap.FlyingW base outer e cls a0 h' → s.heap.UpToSlots h' → Q () { s with heap := h' }) : wpAny M A (leaving env (.ref e)) Q E s := by
  unfold leaving
  refine wpAny_bind (wpAny_noteFrame_againW hf hh.2.2.2 ?_)
  refine wpAny_landsW hh fun h' hfl hs => ?_
  obtain ⟨k1, k2, ⟨_, _, k3⟩, k4⟩ := hfl
  exact hQ h' ⟨k1, k2, k3, k4⟩ hs
end

section
variable {prog : Program} {w : World} {A : Around} {s : Shared} {h₀ : Heap} {L : Addr}

theorem over_units {c : Code} {fs : List Frame} (hu : A.units + 100 < cLine) (h : Nat.ble (unitsOf (fs.map Frame.where_) + c.cUnits) 40 = true) : (A.over c fs).units + 60 < cLine := by
  have := Nat.le_of_ble_eq_true h
  show A.units + unitsOf (fs.map Frame.where_) + c.cUnits + 60 < cLine
  omega
theorem over_depth {c : Code} {fs : List Frame} (hu : A.depth + 10 < recursionLimit) (h : Nat.ble (frameCount (fs.map Frame.where_) + c.weight) 10 = true) : (A.over c fs).depth < recursionLimit := by
  have := Nat.le_of_ble_eq_true h
  show A.depth + frameCount (fs.map Frame.where_) + c.weight < recursionLimit
  omega

theorem over_guards {c : Code} {fs : List Frame} (hg : A.guards = some []) (h1 : guardsOf (fs.map Frame.where_) = []) (h2 : c.guards = []) : (A.over c fs).guards = some [] := by
  show pushGuards c.guards (pushGuards (guardsOf (fs.map Frame.where_)) A.guards) = _
  rw [hg, h1, h2]; rfl
theorem over_frames {c : Code} {fs : List Frame} {l l' : List Env} (hg : A.frames = some l) (h : pushEnvs c.envs (pushEnvs (envsOf (fs.map Frame.where_)) (some l)) = some l') : (A.over c fs).frames = some l' := by
  show pushEnvs c.envs (pushEnvs (envsOf (fs.map Frame.where_)) A.frames) = _
  rw [hg, h]

theorem segGen {eL : Env} {L0 : Addr} {Wc : List Addr} {lots : List (List Nat)} {refused : Bool} {D : List (Nat × List Nat)} {d : Addr} {kvs : List (Str × Value)} {s₀ : Shared}
    (hh : A.handled = none) (hg : A.guards = some []) (hu : A.units + 100 < cLine) (hroom : A.depth + 10 < recursionLimit) (hf : A.frames = some [eL]) (hk : eL.scope.kind ≠ .module) (hfL : eL.frame = some L0)
    (hL0 : L0 ≠ 16 ∧ L0 < L) (hW : ∀ b ∈ Wc, b < L ∧ b ≠ 16 ∧ h₀.get? b = none) (hr : Runs D lots refused)
    (hn : ∃ m, s.heap.Ns L0 m) (x : Slv prog w h₀ L d kvs D s) (hd : d ∉ Wc) (hrf : ∀ l ∈ refsOf kvs, l ∉ Wc) :
    Seg (model prog w) A (solveEnd h₀ L L0 eL refused) (solveProto prog w h₀ L L0 Wc lots) lots.length s (.func (fbody dSolve) (eSolve L)) ((model prog w).den (.func (fbody dSolve) (eSolve L))) [] s := by
  refine seg_func ?_
  show Seg _ _ _ _ _ _ _ ((execs [solveWh] (eSolve L)).wrap _ _ _ _) [] s
  refine seg_execs_cons ?_
  refine seg_While fun p => ?_
  refine segSolve (R := solveEnd h₀ L L0 eL refused) (Wc := Wc) (lots := lots) (refused := refused) (L0 := L0) (by rfl) (by rfl) ?_ ?_ ?_ ?_ hW ?_ ?_ hr rfl [] rfl d kvs s s hn x hd hrf (Gmv.refl _ _)
  · exact hh
  · exact over_guards hg rfl rfl
  · exact over_units hu rfl
  · exact over_depth hroom rfl
  · intro s₀ s hb gm sv
    refine seg_leaf (.ok .next) ?_
    show Seg _ _ _ _ _ _ _ ((execs [] (eSolve L)).wrap _ _ _ _) [] s
    refine seg_execs_nil ?_
    exact seg_end (.ok (.ret .none)) ⟨rfl, .inl ⟨hb, rfl, gm, sv⟩⟩
  · intro s₀ s h' e vs hb hn0 gm sv ⟨mL, hmL⟩ hx
    obtain ⟨m0, hm0⟩ := hn0
    have hm0' : s.heap.Ns L0 m0 := hm0.at' fun o e => gm.heap _ o (fun hm => by
      rcases List.mem_cons.mp hm with q | hm
      · exact hL0.1 q
      · rcases List.mem_cons.mp hm with q | hm
        · exact Nat.ne_of_lt hL0.2 q
        · exact Nat.ne_of_lt (Nat.lt_succ_of_lt hL0.2) (List.mem_singleton.mp hm)) e
    have hbase : Heap.StaysIn ((s.heap.hide L).hide L0) s.heap := fun b o e => Heap.of_hide (Heap.of_hide e)
    have hL : ((s.heap.hide L).hide L0).get? L = none := by rw [Heap.hide_ne _ (Ne.symm (Nat.ne_of_lt hL0.2))]; exact Heap.hide_self _ _
    obtain ⟨t, he, htn, ht⟩ := hx.there
    have nsF : ∀ {a m}, Heap.Ns s.heap a m → ∃ o, h'.get? a = some o ∧ ∀ vs, o.data ≠ .fields vs := fun {a m} hn => by
      obtain ⟨o, es, ep, ho, hd, _⟩ := hn
      exact ⟨o, hx.keeps _ _ ho, fun vs q => by rw [hd] at q; cases q⟩
    have hen : ((s.heap.hide L).hide L0).get? e = none := by
      cases q : ((s.heap.hide L).hide L0).get? e with
      | none => rfl
      | some o => have := hbase _ _ q; rw [hx.new] at this; cases this
    have hFF : h'.FunFrames ((s.heap.hide L).hide L0) [eSolve L, eL] := by
      obtain ⟨o1, q1, q2⟩ := nsF hmL
      obtain ⟨o2, q3, q4⟩ := nsF hm0'
      exact ⟨(by rfl : (eSolve L).scope.kind = .function) ▸ (by decide), ⟨L, o1, rfl, hL, q1, q2⟩, hk, ⟨L0, o2, hfL, Heap.hide_self _ _, q3, q4⟩, trivial⟩
    have kb : Heap.StaysIn ((s.heap.hide L).hide L0) h' := fun b o e => hx.keeps _ _ (hbase b o e)
    refine seg_wrap (wpAny_bind (noteFrame_first (base := (s.heap.hide L).hide L0) (env := eSolve L) (outer := [eL]) (L := L) (s := { s with heap := h' }) ?_ hFF rfl he kb hen rfl rfl rfl fun h1 hH1 u1 => wpAny_theTreesLotGoes ?_))
    · exact over_frames hf rfl
    refine seg_leaf (.error (.ref e)) ?_
    show Seg _ _ _ _ _ _ _ (Sem.wrap _ _ _ _ (Sem.bind _ _)) [] _
    rw [Sem.bind_eq_wrap, Sem.wrap_wrap]
    refine seg_wrap (mark_on (L := L) (env := eSolve L) rfl hH1 fun h2 hH2 u2 => ?_)
    show Seg _ _ _ _ _ _ _ (Sem.wrap _ _ _ _ (leaving (eSolve L) (.ref e))) [] _
    refine seg_wrap (leaves_held (s := { s with heap := h2 }) (env := eSolve L) rfl hH2 fun h3 hF3 u3 => ?_)
    refine seg_end (.error (.ref e)) ⟨rfl, .inr ⟨hb, e, s, h3, rfl, rfl, gm, sv, ⟨m0, hm0⟩, (s.heap.hide L).hide L0, _, hF3, fun b o q1 q2 ho => ?_, ?_⟩⟩
    · rw [Heap.hide_ne _ q2, Heap.hide_ne _ q1]; exact ho
    · exact (Heap.UpToSlots.of_keeps hx.keeps).trans (u1.trans (u2.trans u3))
end
end Mine
namespace Mine
open PySem PySem.W PyProof.Rows PySem.Calls

section
variable {prog : Program} {w : World} {A : Around} {E : Value → Shared → Prop} {s : Shared}

theorem ve_no_stop : isSubtype (.type "ValueError") (.type "StopIteration") = pure false := by
  rw [isSubtype_type]; kernel_rfl

/-- the next item of a generator that may end in an error -/
theorem pyNext_mayRaise {a : Addr} {g n : Nat} {gs : GenState} {R : GenEnd} {Y : Protocol} {Q : Option Value → Shared → Prop} (hh : A.handled = none)
    (hl : s.heap.NoLimit) (hroom : A.depth < recursionLimit)
    (hg : s.heap.IsGen a g) (hgs : s.gens[g]? = some gs)
    (hgo : gs.Goes (model prog w) A.in1 R Y n (.send .none) (s.setGen g .running))
    (hY : ∀ v s₁ gs', gs'.bare = true → Y (n - 1) (s.setGen g .running) v s₁ (fun r' s'' => match n with
        | 0 => False
        | m + 1 => gs'.Goes (model prog w) A.in1 R Y m r' s'') → Q (some v) (s₁.setGen g gs'))
    (hR : ∀ r s₁, R n (s.setGen g .running) r s₁ → (r = .ok (.ret .none) ∧ ∀ h', (∀ b o, s₁.heap.get? b = some o → h'.get? b = some o) → Q none { s₁.setGen g .finished with heap := h' }) ∨
      (∃ e, r = .error (.ref e) ∧ s₁.heap.IsGen a g ∧ s₁.TypeIs (.ref e) "ValueError" ∧ E (.ref e) (s₁.setGen g .finished))) :
    wpAny (model prog w) A (pyNext (.ref a)) Q E s := by
  unfold pyNext
  refine wpAny_bind (wpAny_attempt (wpAny_callSpecial?_slot (name := Str.ofString "__next__") hg.typeIs slot_gen_next
    (wpAny_call_entry slot_gen_next hg.typeIs entry_gen_next ?_ (args_gen_next _))))
  show wpAny _ A.in1 (Builtin.Generator.genWake (.ref a) (.send .none)) _ _ s
  unfold Builtin.Generator.genWake
  refine wpAny_bind (wpAny_holding (wpAny_genNumber hg (wpAny_bind (wpAny_genState hgs ?_))))
  cases gs with
  | running => exact hgo.elim
  | finished => exact hgo.elim
  | _ =>
    refine wpAny_bind (wpAny_roomToWake hl hroom ?_)
    show wpAny _ A.in1 (.resume g (.send .none) [] _) _ _ s
    refine wpAny_resumeQ hgs hgo (fun x s₁ hx => ?_) (fun v s₁ gs' hb hv => ?_)
    · rcases hR x s₁ hx with ⟨rfl, hp⟩ | ⟨e, rfl, hgen, hty, hE⟩
      · show wpAny _ A.in1 (newExc (.type "StopIteration") [] >>= _) _ _ _
        refine wpAny_bind ?_
        simp only [newExc, newTuple]
        refine wpAny_bind (wpAny_newObj_type ?_ (by size_fits))
        refine wpAny_bind (m := firstArgMember _ _) (wpAny_of_eq (a := Value.none) (by first | rfl | (simp only [firstArgMember]; rfl)) ?_)
        refine wpAny_newObj_type ?_ (by size_fits)
        simp only [raiseNew]
        refine wpAny_bind (wpAny_bind (wpAny_handled ?_))
        first | rw [show A.in1.handled = none from hh] | rw [hh]
        refine wpAny_throw ?_
        refine wpAny_bind (wpAny_isInstance (T := "StopIteration") (b := true) ⟨_, Heap.get?_push_size _ rfl, rfl⟩ isSubtype_stop ?_)
        exact wpAny_pure (hp _ fun b o hb => Heap.get?_push_of_some _ (Heap.get?_push_of_some _ hb))
      · have hgen' : (s₁.setGen g .finished).heap.IsGen a g := hgen
        have hty' : (s₁.setGen g .finished).TypeIs (.ref e) "ValueError" := hty
        show wpAny _ A.in1 (Builtin.Generator.genLeft (.ref a) (.ref e)) _ _ _
        unfold Builtin.Generator.genLeft Builtin.Generator.madeByALambda
        obtain ⟨og, nm, qn, ho, hc, hd, hsl⟩ := hgen'
        refine wpAny_bind (wpAny_bind (wpAny_load ho ?_))
        rw [hd]
        refine wpAny_pure ?_
        refine wpAny_bind (wpAny_isInstance hty' ve_no_stop ?_)
        rw [Bool.and_false, if_neg (by decide)]
        unfold Builtin.Generator.genEscaped
        refine wpAny_bind (wpAny_isInstance hty' ve_no_stop ?_)
        rw [if_pos (by decide)]
        refine wpAny_throw ?_
        refine wpAny_bind (wpAny_isInstance hty' ve_no_stop ?_)
        rw [if_neg (by decide)]
        exact wpAny_throw hE
    · exact wpAny_pure ⟨v, rfl, wpAny_pure (hY v s₁ gs' hb hv)⟩
end
end Mine
namespace Mine
open PySem PySem.W PyProof.Rows PySem.Calls

/-- what a waking of the generator does -/
structure Stp (W : List Addr) (s s' : Shared) : Prop where
  heap : ∀ b o, b ∉ W → s.heap.get? b = some o → s'.heap.get? b = some o
  bare : (∀ x ∈ s.gens, x.bare = true) → ∀ x ∈ s'.gens, x.bare = true
  os : s'.os = s.os
theorem Stp.refl (W : List Addr) (s : Shared) : Stp W s s := ⟨fun _ _ _ e => e, fun h => h, rfl⟩
theorem Stp.trans {W : List Addr} {a b c : Shared} (x : Stp W a b) (y : Stp W b c) : Stp W a c := ⟨fun q o hq e => y.heap q o hq (x.heap q o hq e), fun h => y.bare (x.bare h), y.os.trans x.os⟩
theorem Stp.mono {W W' : List Addr} {s s' : Shared} (x : Stp W s s') (h : ∀ b ∈ W, b ∈ W' ∨ s.heap.get? b = none) : Stp W' s s' :=
  ⟨fun b o hb e => x.heap b o (fun hm => by
    rcases h b hm with q | q
    · exact hb q
    · rw [q] at e; cases e) e, x.bare, x.os⟩
theorem Stp.here {W : List Addr} {s : Shared} {h' : Heap} {tk : Nat} {dr : Drawn} (hk : ∀ b o, b ∉ W → s.heap.get? b = some o → h'.get? b = some o) : Stp W s { s with heap := h', toks := tk, drawn := dr } := ⟨hk, fun h => h, rfl⟩
theorem bare_setGen {s : Shared} {g : Nat} {x : GenState} (hx : x.bare = true) (h : ∀ y ∈ s.gens, y.bare = true) : ∀ y ∈ (s.setGen g x).gens, y.bare = true := by
  intro y hy
  rcases Array.mem_or_eq_of_mem_setIfInBounds hy with q | q
  · exact h y q
  · rw [q]; exact hx

structure Going (prog : Program) (w : World) (A : Around) (h₀ : Heap) (L L0 : Addr) (eL : Env) (Wc : List Addr) (lots : List (List Nat)) (refused : Bool) (a : Addr) (g j : Nat) (s : Shared) : Prop where
  gen : s.heap.IsGen a g
  goes : ∃ gs, s.gens[g]? = some gs ∧ gs.bare = true ∧ ∀ s'', (∀ b o, b ∉ Wc → s.heap.get? b = some o → s''.heap.get? b = some o) → (∃ m, s''.heap.Ns L0 m) →
    gs.Goes (model prog w) A (solveEnd h₀ L L0 eL refused) (solveProto prog w h₀ L L0 Wc lots) (lots.length - j) (.send .none) s''
  apart : a ∉ Wc ∧ a ∉ [16, L, L + 1] ∧ a ≠ L0
  lt : L0 ≠ 16 ∧ L0 < L

section
variable {prog : Program} {w : World} {A Ag : Around} {E : Value → Shared → Prop} {s : Shared} {h₀ : Heap} {L L0 a : Addr} {eL : Env} {Wc : List Addr} {lots : List (List Nat)} {refused : Bool} {g j : Nat}

theorem Going.move (x : Going prog w A h₀ L L0 eL Wc lots refused a g j s) {s' : Shared} (hk : ∀ b o, b ∉ Wc → s.heap.get? b = some o → s'.heap.get? b = some o) (hg : s'.gens = s.gens) : Going prog w A h₀ L L0 eL Wc lots refused a g j s' := by
  obtain ⟨gs, e, hb, hs⟩ := x.goes
  exact ⟨let ⟨o, n1, n2, ho, r⟩ := x.gen; ⟨o, n1, n2, hk _ _ x.apart.1 ho, r⟩, ⟨gs, by rw [hg]; exact e, hb, fun s'' hal => hs s'' fun b o hb e => hal b o hb (hk b o hb e)⟩, x.apart, x.lt⟩

theorem Flown.there {h h' : Heap} {e : Addr} (x : Flown L L0 eL h h' e) : ∃ o, h'.get? e = some o ∧ o.cls = .type "ValueError" := let ⟨_, _, hf, _⟩ := x; hf.there

theorem nextSolve {Q : Option Value → Shared → Prop} (hh : A.handled = none) (hroom : A.depth < recursionLimit) (hl : s.heap.NoLimit) (hn : ∃ m, s.heap.Ns L0 m) (hj : j ≤ lots.length)
    (x : Going prog w A.in1 h₀ L L0 eL Wc lots refused a g j s)
    (hQ : ∀ t T X s', lots[j]? = some X → (∀ b ∈ [L, L + 1], ∃ o, s'.heap.get? b = some o) → NS prog w s'.heap t T → (∀ n, n ∈ T ↔ n ∈ X) → Stp [16, L, L + 1] s s' → Sv h₀ s'.heap → Going prog w A.in1 h₀ L L0 eL Wc lots refused a g (j + 1) s' → Q (some (.ref t)) s')
    (hN : ∀ s', j = lots.length → refused = false → Stp [16, L, L + 1] s s' → Sv h₀ s'.heap → Q none s')
    (hE : ∀ s₁ s' e, j = lots.length → refused = true → Stp [16, L, L + 1] s s₁ → Sv h₀ s₁.heap → Flown L L0 eL s₁.heap s'.heap e → (∃ m, s₁.heap.Ns L0 m) → s'.gens = s₁.gens → s'.os = s₁.os → E (.ref e) s') :
    wpAny (model prog w) A (pyNext (.ref a)) Q E s := by
  obtain ⟨gs, hgs, hb, hgo⟩ := x.goes
  have n0 : ∀ {s₁ : Shared}, (∀ b o, b ∉ [16, L, L + 1] → s.heap.get? b = some o → s₁.heap.get? b = some o) → ∃ m, s₁.heap.Ns L0 m := fun hk => by
    obtain ⟨m, hm⟩ := hn
    exact ⟨m, hm.at' fun o e => hk _ o (fun hm => by
      rcases List.mem_cons.mp hm with q | hm
      · exact x.lt.1 q
      · rcases List.mem_cons.mp hm with q | hm
        · exact Nat.ne_of_lt x.lt.2 q
        · exact Nat.ne_of_lt (Nat.lt_succ_of_lt x.lt.2) (List.mem_singleton.mp hm)) e⟩
  have hself : (s.setGen g .running).gens[g]? = some .running := setGen_self hgs
  refine pyNext_mayRaise hh hl hroom x.gen hgs (hgo _ (fun _ _ _ e => e) hn) (fun v s₁ gs' hb' hv => ?_) (fun r s₁ hr => ?_)
  · obtain ⟨⟨t, T, X, rfl, hT, hX, mT⟩, gm, sv, hlv, hk⟩ := hv
    have gk : ∀ b o, b ∉ [16, L, L + 1] → s.heap.get? b = some o → s₁.heap.get? b = some o := fun b o hb e => gm.heap b o hb e
    have hnn := n0 gk
    have hjl : j < lots.length := by
      rcases Nat.lt_or_ge j lots.length with q | q
      · exact q
      · exfalso
        have hz : lots.length - j = 0 := by omega
        rw [hz] at hk
        exact hk s₁ (fun _ _ _ e => e) hnn
    obtain ⟨m, hm⟩ : ∃ m, lots.length - j = m + 1 := ⟨lots.length - j - 1, by omega⟩
    rw [hm] at hX hk
    have hidx : lots.length - 1 - (m + 1 - 1) = j := by omega
    rw [hidx] at hX
    have hsz : g < s₁.gens.size := Nat.lt_of_lt_of_le (Array.getElem?_eq_some_iff.mp hself).1 gm.size
    have hs1 : s₁.gens[g]? = some s₁.gens[g] := Array.getElem?_eq_getElem hsz
    have hm' : lots.length - (j + 1) = m := by omega
    refine hQ t T X _ hX hlv hT mT ⟨fun b o hb e => gk b o hb e, fun h => bare_setGen hb' (gm.bare (bare_setGen rfl h)), gm.os⟩ sv ⟨let ⟨o, n1, n2, ho, r⟩ := x.gen; ⟨o, n1, n2, gk _ _ x.apart.2.1 ho, r⟩, ⟨gs', setGen_self hs1, hb', fun s'' hal hn' => ?_⟩, x.apart, x.lt⟩
    rw [hm']
    exact hk s'' hal hn'
  · obtain ⟨hz, hr⟩ := hr
    have hjl : j = lots.length := by omega
    rcases hr with ⟨hb0, rfl, gm, sv⟩ | ⟨hb1, e, s₂, h', rfl, rfl, gm, sv, hnn, fl⟩
    · refine .inl ⟨rfl, fun h' hk => hN _ hjl hb0 ⟨fun b o hb e => hk _ _ (gm.heap b o hb e), fun h => ?_, gm.os⟩ (sv.keeps hk)⟩
      exact bare_setGen rfl (gm.bare (bare_setGen rfl h))
    · obtain ⟨base, a0, hfl, hbs, hup⟩ := id fl
      refine .inr ⟨e, rfl, ?_, ?_, hE (s₂.setGen g .finished) _ e hjl hb1 ⟨fun b o hb e => gm.heap b o hb e, fun h => bare_setGen rfl (gm.bare (bare_setGen rfl h)), gm.os⟩ sv fl (n0 fun b o hb e => gm.heap b o hb e) rfl rfl⟩
      · obtain ⟨o, n1, n2, ho, r⟩ := x.gen
        refine ⟨o, n1, n2, hfl.1 _ _ (hbs a o (fun q => x.apart.2.1 (q ▸ .tail _ (.head _))) x.apart.2.2 (gm.heap a o x.apart.2.1 ho)), r⟩
      · obtain ⟨o, ho, hc⟩ := hfl.there
        exact ⟨o, ho, hc⟩
end
end Mine
namespace Mine
open PySem PySem.W PyProof.Rows PySem.Calls

section
variable {prog : Program} {w : World} {A Ag : Around} {E : Value → Shared → Prop} {s : Shared} {h₀ : Heap} {L0 : Addr} {eL : Env} {Wc : List Addr} {lots : List (List Nat)} {refused : Bool} {d : Addr} {kvs : List (Str × Value)} {D : List (Nat × List Nat)}

theorem callSolve {Q : Value → Shared → Prop} (hroom : A.depth < recursionLimit)
    (hh : Ag.handled = none) (hg : Ag.guards = some []) (hu : Ag.units + 100 < cLine) (hroomg : Ag.depth + 10 < recursionLimit) (hf : Ag.frames = some [eL]) (hk : eL.scope.kind ≠ .module) (hfL : eL.frame = some L0)
    (hL0 : L0 ≠ 16 ∧ L0 < s.heap.objs.size) (hW : ∀ b ∈ Wc, b < s.heap.objs.size ∧ b ≠ 16 ∧ h₀.get? b = none) (hr : Runs D lots refused)
    (sv : Sv h₀ s.heap) (dic : s.heap.DictOf (strKind prog w) d kvs) (rel : SRel prog w s.heap kvs D) (len : D.length ≤ 7) (nodup : (D.map (·.1)).Nodup) (hd : (d == sysModules) = false) (hd16 : d ≠ 16) (hr16 : 16 ∉ refsOf kvs)
    (hdW : d ∉ Wc) (hrW : ∀ l ∈ refsOf kvs, l ∉ Wc)
    (hQ : ∀ a h' tk gs, s.heap.objs.size ≤ a → (∀ b o, s.heap.get? b = some o → h'.get? b = some o) → gs.bare = true → Sv h₀ h' →
      Going prog w Ag h₀ s.heap.objs.size L0 eL Wc lots refused a s.gens.size 0 { s with heap := h', gens := s.gens.push gs, toks := tk } → Q (.ref a) { s with heap := h', gens := s.gens.push gs, toks := tk }) :
    wpAny (model prog w) A (call (.ref 19) [.ref d]) Q No s := by
  have G := sv.gn.glo
  obtain ⟨o, pm, doc, ho, hdt, hcd⟩ := G.fsolve
  refine wpAny_call (codeAny_mono (codeAny_call_generator (R := fun r s' => ∃ v, r = .ok (.ret v) ∧ Q v s') (body := fbody dSolve) hroom ho hdt (by rfl) (by rfl) (by rfl) hcd ?_) (fun r s' hr => by obtain ⟨v, rfl, hq⟩ := hr; exact hq))
  refine wpAny_of_eq (a := [(Str.ofString "dependencies", Value.ref d)]) (by rfl) ?_
  refine wpAny_newFunctionEnv_cells (by rfl) (by
    intro x hx; simp only [List.mem_cons, List.not_mem_nil, or_false] at hx; subst hx; exact .inl (by rfl)) fun env he s₁ x => ?_
  have he' : env = eSolve s.heap.objs.size := he
  subst he'
  generalize hL : s.heap.objs.size = L at x hL0 hW hQ ⊢
  obtain ⟨⟨hsame, hns, hkp, hfr⟩, hcell, _, _⟩ := x
  obtain ⟨h₁, tk, rfl⟩ := hsame
  have hk1 : ∀ b o, s.heap.get? b = some o → h₁.get? b = some o := hkp
  have hct := hcell "t" (L + 1) (by rfl)
  have hns' : h₁.Ns L _ := hns
  refine ⟨G.nolimit.keeps hk1, .ref h₁.objs.size, rfl, ?_⟩
  have hLh : L < h₁.objs.size := hns'.lt
  have hlt1 : L + 1 < h₁.objs.size := hct.lt
  refine hQ _ _ _ (.fresh (.func (fbody dSolve) (eSolve L))) (Nat.le_of_lt hLh) (fun b o e => Heap.get?_push_of_some _ (hk1 b o e)) rfl (sv.keeps fun b o e => Heap.get?_push_of_some _ (hk1 b o e)) ?_
  have olds : ∀ b, b < L → b ∉ [L, L + 1] := fun b hb hm => by
    rcases List.mem_cons.mp hm with q | hm
    · exact Nat.ne_of_lt hb q
    · exact Nat.ne_of_lt (Nat.lt_succ_of_lt hb) (List.mem_singleton.mp hm)
  have hdl : d < L := hL ▸ dict_lt dic
  have hrl : ∀ l ∈ refsOf kvs, l < L := fun l hl => by
    obtain ⟨k, hk⟩ := refsOf_mem.mp hl
    obtain ⟨n, js, _, _, _, hns⟩ := rel.mem hk
    exact hL ▸ hns.lt
  have h16L : (16 : Addr) < L := hL ▸ sv.lt16
  refine ⟨⟨_, _, _, Heap.get?_push_size _ rfl, rfl, rfl, rfl⟩, ⟨_, Array.getElem?_push_size .., rfl, fun s'' hal hn => ⟨rfl, ?_⟩⟩, ⟨fun hm => ?_, fun hm => ?_, ?_⟩, hL0⟩
  · have hal' : ∀ b o, b ∉ Wc → h₁.get? b = some o → s''.heap.get? b = some o := fun b o hb e => hal b o hb (Heap.get?_push_of_some _ e)
    have LW : ∀ b, L ≤ b → b ∉ Wc := fun b hb hm => Nat.lt_irrefl _ (Nat.lt_of_lt_of_le (hW b hm).1 hb)
    refine segGen (s₀ := s'') hh hg hu hroomg hf hk hfL hL0 hW hr hn ⟨?_, ?_, ?_, ?_, ?_, len, nodup, ⟨hd, ?_⟩, ?_, ?_⟩ hdW hrW
    · exact (sv.keeps hk1).off Wc (fun b hb => (hW b hb).2.2) hal'
    · exact ⟨_, hns'.at' fun o e => hal' _ o (LW _ (Nat.le_refl _)) e, by rfl⟩
    · obtain ⟨oc, e, r⟩ := hct
      exact ⟨_, oc, hal' _ _ (LW _ (Nat.le_succ _)) e, r⟩
    · exact dic.at fun o e => hal' _ o hdW (hk1 _ o e)
    · exact rel.within fun l hl o e => hal' l o (hrW l hl) (hk1 _ o e)
    · intro hm
      rcases List.mem_cons.mp hm with q | hm
      · exact hd16 q
      · exact olds d hdl hm
    · intro l hl hm
      rcases List.mem_cons.mp hm with q | hm
      · exact hr16 (q ▸ hl)
      · exact olds l (hrl l hl) hm
    · exact ⟨sv.none (Nat.le_of_eq hL), sv.none (Nat.le_trans (Nat.le_of_eq hL) (Nat.le_succ _))⟩
  · exact Nat.lt_irrefl _ (Nat.lt_trans (hW _ hm).1 hLh)
  · rcases List.mem_cons.mp hm with q | hm
    · exact Nat.lt_irrefl _ (Nat.lt_trans (q ▸ h16L) hLh)
    · rcases List.mem_cons.mp hm with q | hm
      · exact Nat.ne_of_gt hLh q
      · exact Nat.ne_of_gt hlt1 (List.mem_singleton.mp hm)
  · exact Nat.ne_of_gt (Nat.lt_trans hL0.2 hLh)
end
end Mine
namespace Mine
open PySem PySem.W PyProof.Rows PySem.Calls
section
variable {prog : Program} {w : World} {A : Around} {E : Value → Shared → Prop} {s : Shared} {h h' : Heap} {a : Addr}

theorem entry_list_getattribute : entryFor table "list.__getattribute__" = some Builtin.«object.__getattribute__» :=
  entryFor_alias (id' := "object.__getattribute__") (by kernel_rfl) (by first | rfl | decide +kernel) (by decide +kernel) (by kernel_rfl)
theorem list_keys_none : typeLookup (.type "list") (Str.ofString "keys") = pure none := by rw [typeLookup_type, builtinLookup_eq_fast]; kernel_rfl
theorem list_getattr_none : typeLookup (.type "list") "__getattr__" = pure none := by rw [typeLookup_type, builtinLookup_eq_fast]; kernel_rfl
theorem attrErr_sub : isSubtype (.type "AttributeError") (.type "AttributeError") = pure true := by rw [isSubtype_type]; kernel_rfl

theorem findKeysNone {Q : Builtin.ObjectAttr.Found → Shared → Prop} {o : Obj} {vs : Array Value} {n : Nat} (hx : s.heap.get? a = some o) (hc : o.cls = .type "list") (hdc : o.dict = none) (hdt : o.data = .seq vs n) (hq : Q .missing s) :
    wpAny (model prog w) A (Builtin.ObjectAttr.find (.ref a) (.type "list") (Str.ofString "keys")) Q E s := by
  unfold Builtin.ObjectAttr.find
  refine wpAny_bind (wpAny_of_eq list_keys_none ?_)
  refine wpAny_bind (m := Builtin.ObjectAttr.getOf _) (wpAny_pure ?_)
  refine wpAny_bind (m := Builtin.ObjectAttr.dataDescriptor? _ _) (wpAny_pure ?_)
  dsimp only
  unfold Builtin.ObjectAttr.ownThenClass Builtin.ObjectAttr.inOwnDict
  dsimp only
  refine wpAny_bind (wpAny_bind (m := Builtin.ObjectAttr.ownDict a) ?_)
  unfold Builtin.ObjectAttr.ownDict
  refine wpAny_bind (headPart' hx ?_)
  rw [hdt]
  dsimp only
  unfold instanceDict
  refine wpAny_bind (headPart' hx ?_)
  rw [hc, hdc]
  dsimp only
  rw [if_pos (by rfl)]
  refine wpAny_pure ?_
  refine wpAny_pure ?_
  refine wpAny_bind (m := Builtin.ObjectAttr.copiedAttributeGuard _ _) ?_
  unfold Builtin.ObjectAttr.copiedAttributeGuard
  dsimp only
  rw [if_neg (by decide)]
  refine wpAny_pure ?_
  unfold Builtin.ObjectAttr.byTheClass
  refine wpAny_bind (wpAny_rule (wpAny_pure hq))

theorem madeAttr {m : Value} {Q : Value → Shared → Prop}
    (hQ : ∀ e h', s.heap.get? e = none → (∀ b o, s.heap.get? b = some o → h'.get? b = some o) → h'.get? e = some { cls := .type "AttributeError", data := .fields #[.ref s.heap.objs.size, .none, .none, .none, .bool false, .none, unsetMember, unsetMember] } → Q (.ref e) { s with heap := h' }) :
    wpAny (model prog w) A (newExc (.type "AttributeError") [m]) Q E s := by
  simp only [newExc, newTuple]
  refine wpAny_bind (wpAny_newObj_type ?_ (by size_fits))
  refine wpAny_bind (m := firstArgMember _ _) (wpAny_of_eq (a := Value.none) (by first | rfl | (simp only [firstArgMember]; rfl)) ?_)
  exact wpAny_newObj_type (hQ _ _ (get_none (by rw [Heap.size_push]; exact Nat.le_succ _)) (fun b o hb => Heap.get?_push_of_some _ (Heap.get?_push_of_some _ hb)) (Heap.get?_push_size _ rfl)) (by size_fits)

theorem getKeysNone {Q : Option Value → Shared → Prop} (hh : A.handled = none) {o : Obj} {vs : Array Value} {n : Nat} (ho : s.heap.get? a = some o) (hc : o.cls = .type "list") (hdc : o.dict = none) (hdt : o.data = .seq vs n)
    (hQ : ∀ h' tk, (∀ b o, s.heap.get? b = some o → h'.get? b = some o) → Q none { s with heap := h', toks := tk }) :
    wpAny (model prog w) A (getAttr? (.ref a) "keys") Q E s := by
  have hT : ∀ tk', ({ s with toks := tk' } : Shared).TypeIs (.ref a) "list" := fun _ => ⟨o, ho, hc⟩
  have f3 := PySem.F.slot_list_getattribute.lookup
  have f4 := PySem.F.slot_list_getattribute.bind (.ref a)
  unfold getAttr? getAttrBy?
  refine wpAny_bind (wpAny_mkText (wpAny_bind (wpAny_attempt ?_)))
  unfold getAttrBy
  refine wpAny_holding ?_
  refine wpAny_bind (wpAny_typeOf (hT _) ?_)
  refine wpAny_bind (wpAny_of_eq f3 ?_)
  show wpAny _ _ (getAttrByItsOwn _ _ _ _ _ _) _ _ _
  unfold getAttrByItsOwn
  refine wpAny_bind (m := hookBefore _) (wpAny_pure ?_)
  refine wpAny_bind (wpAny_attempt (wpAny_holding ?_))
  show wpAny _ _ (boundAndCalled _ _ _) _ _ _
  unfold boundAndCalled
  refine wpAny_bind (wpAny_of_eq f4 ?_)
  dsimp only
  refine wpAny_call_entry PySem.F.slot_list_getattribute (hT _) entry_list_getattribute ?_ (PySem.F.args_list_getattribute_2 _ _)
  unfold Builtin.«object.__getattribute__»
  refine wpAny_bind (wpAny_pure ?_)
  refine wpAny_bind (m := Builtin.ObjectAttr.attrName _) (wpAny_pure ?_)
  refine wpAny_bind (wpAny_typeOf (hT _) ?_)
  refine wpAny_bind (findKeysNone (s := { s with toks := _ }) ho hc hdc hdt ?_)
  dsimp only
  rw [if_neg (by decide), if_neg (by decide)]
  unfold Builtin.ObjectAttr.noSuchAttribute typeNameOfCut shownTypeOf
  refine wpAny_bind (wpAny_bind (wpAny_bind (wpAny_typeOf (hT _) ?_)))
  rw [if_neg (by decide)]
  refine wpAny_pure ?_
  unfold typeNameCut typeName
  refine wpAny_pure ?_
  unfold raiseAttrError
  refine wpAny_bind (wpAny_mkStr ?_ (by decide +kernel))
  refine wpAny_bind ?_
  refine madeAttr (s := { s with toks := _ }) fun e h1 n1 k1 he1 => ?_
  refine wpAny_bind (wpAny_mkText (wpAny_bind ?_))
  unfold noteAttr
  have hTe : ∀ tk', ({ s with heap := h1, toks := tk' } : Shared).TypeIs (.ref e) "AttributeError" := fun _ => ⟨_, he1, rfl⟩
  refine wpAny_bind ?_
  unfold lacksNameAndObj
  refine wpAny_bind (wpAny_isInstance (hTe _) attrErr_sub ?_)
  rw [if_neg (by decide)]
  refine wpAny_bind (wpAny_load he1 ?_)
  dsimp only
  rw [if_neg (by simp [unsetMember, rawInt]), if_neg (by simp [unsetMember, rawInt, doubtfulMember])]
  refine wpAny_pure ?_
  rw [if_pos rfl]
  refine wpAny_bind (wpAny_rule (wpAny_bind (wpAny_typeOf (hTe _) ?_)))
  dsimp only
  refine wpAny_layMembers he1 rfl ?_
  unfold raiseNew
  refine wpAny_bind (wpAny_handled ?_)
  rw [show A.in1.handled = none from hh]
  refine wpAny_throw ?_
  have hbe : ∀ b o, s.heap.get? b = some o → b ≠ e := fun b o hb q => by
    have n1' : s.heap.get? e = none := n1
    rw [← q, hb] at n1'; cases n1'
  generalize hh2 : h1.update e _ = h2
  have he2 : ∃ oe, h2.get? e = some oe ∧ oe.cls = .type "AttributeError" := ⟨_, hh2 ▸ Heap.get?_update_self _ he1 rfl, Obj.cls_mapFields _ _⟩
  have k2 : ∀ b o, s.heap.get? b = some o → h2.get? b = some o := fun b o hb => by
    rw [← hh2, Heap.get?_update_other _ _ (Ne.symm (hbe b o hb))]
    exact k1 b o hb
  have hTe2 : ∀ tk', ({ s with heap := h2, toks := tk' } : Shared).TypeIs (.ref e) "AttributeError" := fun _ => he2
  unfold getattributeRaised
  refine wpAny_bind (wpAny_isInstance (hTe2 _) attrErr_sub ?_)
  rw [if_pos rfl]
  unfold hookBehind
  rw [if_neg (by decide)]
  refine wpAny_bind (wpAny_of_eq list_getattr_none ?_)
  unfold hookOrError attributeErrorLeaves
  dsimp only
  rw [if_pos (by rfl)]
  refine wpAny_throw ?_
  refine wpAny_bind (wpAny_isInstance (hTe2 _) attrErr_sub ?_)
  rw [if_pos rfl]
  exact wpAny_pure (hQ h2 _ k2)
end
end Mine
namespace Mine
open PySem PySem.W PyProof.Rows PySem.Calls
section
variable {prog : Program} {w : World} {A : Around} {E : Value → Shared → Prop} {s : Shared} {h h' : Heap} {a d I l : Addr}

theorem entry_upd_loop : entryFor table "dict.update.loop" = some Builtin.«dict.update.loop» := entryFor_of_tree (by kernel_rfl)
theorem plain_upd_loop : plainId "dict.update.loop" = true := by decide +kernel

/-- tuples of a name and a thing -/
def TupsAre (h : Heap) (W : List Addr) (ys : List Value) (ps : List (Str × Value)) : Prop :=
  ys.length = ps.length ∧ ∀ (j : Nat) (y : Value), ys[j]? = some y → ∃ T k t v, y = .ref T ∧ T ∉ W ∧ h.IsTuple T #[.str k t, v] ∧ ps[j]? = some (k, v)
theorem TupsAre.off {h h' : Heap} {W : List Addr} {ys : List Value} {ps : List (Str × Value)} (x : TupsAre h W ys ps) (hk : ∀ b o, b ∉ W → h.get? b = some o → h'.get? b = some o) : TupsAre h' W ys ps :=
  ⟨x.1, fun j y hy => let ⟨T, k, t, v, e, hn, ⟨o, ho, r⟩, hp⟩ := x.2 j y hy; ⟨T, k, t, v, e, hn, ⟨o, hk _ _ hn ho, r⟩, hp⟩⟩

theorem valueAt_none {kvs : List (Str × Value)} {k : Str} (h : k ∉ kvs.map (·.1)) : valueAt kvs k = none := by
  unfold valueAt
  rw [List.find?_eq_none.mpr]
  · rfl
  · intro x hx
    simp only [decide_eq_true_eq]
    intro e
    exact h (List.mem_map.mpr ⟨x, hx, e⟩)

theorem pairTup {T : Addr} {items : Array Value} {Q : List Value → Shared → Prop} (hT : s.heap.IsTuple T items) (h : Q items.toList s) : wpAny (model prog w) A (Builtin.Dict.pairItems (.ref T)) Q E s := by
  obtain ⟨o, ho, hc, n, hd⟩ := hT
  unfold Builtin.Dict.pairItems
  refine wpAny_bind (wpAny_typeOf ⟨o, ho, hc⟩ ?_)
  rw [if_pos (by decide)]
  exact wpAny_bind (wpAny_seqItems ho hd (wpAny_pure h))

theorem updLoop (hh : A.handled = none) {R : Result → Shared → Prop} {ys : List Value} {ps : List (Str × Value)} (hnd : (ps.map (·.1)).Nodup) (hsz : ps.length ≤ 1000) (hdI : d ≠ I) (hld : l ≠ d) (hlI : l ≠ I)
    (hR : ∀ h' tk, h'.DictOf (strKind prog w) d ps → (∀ b o, b ∉ [d, I] → s.heap.get? b = some o → h'.get? b = some o) → R (.ok (.ret .none)) { s with heap := h', toks := tk }) :
    ∀ (n i : Nat) (h : Heap) (tk : Nat), n + i = ys.length → h.IsListIter I l i → h.IsList l ys.toArray → TupsAre h [d, I] ys ps → h.DictOf (strKind prog w) d (ps.take i) → (∀ b o, b ∉ [d, I] → s.heap.get? b = some o → h.get? b = some o) →
      codeAny (model prog w) A (.builtin "dict.update.loop" ⟨[.ref d, .ref I, .int (i : Int) 0, .none], []⟩) R { s with heap := h, toks := tk } := by
  intro n
  induction n with
  | zero =>
    intro i h tk hn hit hl ht hd hk
    refine codeAny_builtin entry_upd_loop ?_
    rw [Around.under_plainId plain_upd_loop]
    unfold Builtin.«dict.update.loop»
    refine wpAny_bind (wpAny_pyNext_list_end (s := { s with heap := h, toks := tk }) hh hit hl (by rw [List.getElem?_toArray]; exact List.getElem?_eq_none (by omega)) fun h1 hs1 => ?_)
    dsimp only
    refine wpAny_bind (m := Builtin.Dict.addKeywords _ _) (wpAny_pure (wpAny_pure ?_))
    have e1 : ps.take i = ps := List.take_of_length_le (by have := ht.1; omega)
    rw [e1] at hd
    exact hR h1 tk (hd.at fun o e => hs1 d o hdI e) fun b o hb e => hs1 b o (fun q => hb (q ▸ .tail _ (.head _))) (hk b o hb e)
  | succ n ih =>
    intro i h tk hn hit hl ht hd hk
    have hi : i < ys.length := by omega
    obtain ⟨T, k, t, v, ey, hTn, hT, hp⟩ := ht.2 i ys[i] (List.getElem?_eq_getElem hi)
    refine codeAny_builtin entry_upd_loop ?_
    rw [Around.under_plainId plain_upd_loop]
    unfold Builtin.«dict.update.loop»
    refine wpAny_bind (wpAny_pyNext_list_item (s := { s with heap := h, toks := tk }) hit hl (by rw [List.getElem?_toArray]; exact List.getElem?_eq_getElem hi) fun h1 hit1 hs1 => ?_)
    dsimp only
    rw [ey]
    have k1 : ∀ b o, b ≠ I → h.get? b = some o → h1.get? b = some o := fun b o hb e => (hs1.2 b hb).trans e
    have hT1 : h1.IsTuple T #[.str k t, v] := let ⟨o, ho, r⟩ := hT; ⟨o, k1 _ _ (fun q => hTn (q ▸ .tail _ (.head _))) ho, r⟩
    refine wpAny_bind (wpAny_holding (wpAny_bind (wpAny_tryCatch (pairTup (s := { s with heap := h1, toks := tk }) hT1 ?_))))
    dsimp only
    have hdl : (ps.take i).length ≤ 1000 := Nat.le_trans (List.length_take_le' _ _) hsz
    refine wpAny_holding (wpAny_dictSet_pairs (s := { s with heap := h1, toks := tk }) (k := k) (strKind_is prog w _ _) (hd.at fun o e => k1 d o hdI e) (fun h2 hd2 hs2 => ?_) (Nat.le_trans hdl (by decide)))
    have hst : stored (ps.take i) k v = ps.take (i + 1) := by
      rw [stored_new (valueAt_none ?_), List.take_add_one, hp]; rfl
      intro hm
      rw [List.map_take] at hm
      have hi2 : i < (ps.map (·.1)).length := by rw [List.length_map]; have := ht.1; omega
      have e2 : (ps.map (·.1))[i]? = some k := by rw [List.getElem?_map, hp]; rfl
      obtain ⟨j, hj, ej⟩ := List.mem_take_iff_getElem.mp hm
      have hj' : j < i := by omega
      have e3 := (List.getElem?_eq_some_iff.mp e2).2
      exact (List.pairwise_iff_getElem.mp hnd) j i (by omega) hi2 hj' (ej.trans e3.symm)
    rw [hst] at hd2
    have k2 : ∀ b o, b ∉ [d, I] → h.get? b = some o → h2.get? b = some o := fun b o hb e => (hs2.2 b (fun q => hb (q ▸ .head _))).trans (k1 b o (fun q => hb (q ▸ .tail _ (.head _))) e)
    refine wpAny_pure ⟨plainId_quiet plain_upd_loop _, ?_⟩
    exact ih (i + 1) h2 _ (by omega) (let ⟨o, ho, r⟩ := hit1; ⟨o, (hs2.2 I (Ne.symm hdI)).trans ho, r⟩) (hl.at fun o e => (hs2.2 l hld).trans (k1 l o hlI e)) (ht.off k2) hd2 fun b o hb e => k2 b o hb (hk b o hb e)

theorem callDictPairs (hh : A.handled = none) {Q : Value → Shared → Prop} {vs : List Value} {ps : List (Str × Value)} {o : Obj} {n : Nat} (ho : s.heap.get? l = some o) (hc : o.cls = .type "list") (hdc : o.dict = none) (hdt : o.data = .seq vs.toArray n)
    (ht : TupsAre s.heap [] vs ps) (hnd : (ps.map (·.1)).Nodup) (hsz : ps.length ≤ 1000)
    (hQ : ∀ d h' tk, s.heap.objs.size ≤ d → h'.DictOf (strKind prog w) d ps → (∀ b o, s.heap.get? b = some o → h'.get? b = some o) → Q (.ref d) { s with heap := h', toks := tk }) :
    wpAny (model prog w) A (call (.type "dict") [.ref l]) Q E s := by
  refine callType_codes (Q₁ := fun obj s₁ => obj = .ref s.heap.objs.size ∧ s₁ = { s with heap := s.heap.push { cls := .type "dict", data := .dict #[] } }) F.kt_called_dict (F.kt_typeCall_dict_1 _) F.entry_dict_init (kt_code_dict_new _ ⟨rfl, rfl⟩) ?_
  rintro obj s₁ ⟨rfl, rfl⟩
  have hnew : (s.heap.push { cls := .type "dict", data := .dict #[] }).DictOf (strKind prog w) s.heap.objs.size [] := Heap.DictOf.new s.heap
  have ho' := Heap.get?_push_of_some { cls := .type "dict", data := .dict #[] } ho
  have hls : l < s.heap.objs.size := Heap.lt_size ho
  refine ⟨hnew.typeIs, F.args_dict_init_2 _ _, ?_⟩
  unfold Builtin.«dict.__init__»
  refine wpAny_bind ?_
  unfold Builtin.Dict.selfAndRest
  refine wpAny_bind (wpAny_notOrdered_dict hnew.typeIs ?_)
  show wpAny _ _ (pure (s.heap.objs.size, [Value.ref l])) _ _ _
  refine wpAny_pure ?_
  show wpAny _ _ (Builtin.Dict.updateFrom "dict.__init__" s.heap.objs.size (.ref l) [] .none) _ _ _
  unfold Builtin.Dict.updateFrom
  refine wpAny_bind (wpAny_typeOf ⟨o, ho', hc⟩ ?_)
  rw [if_pos (by decide)]
  refine wpAny_bind (getKeysNone (s := { s with heap := _ }) hh ho' hc hdc hdt fun h1 tk1 k1 => ?_)
  rw [if_pos (by rfl)]
  refine wpAny_bind (wpAny_rule ?_)
  have hl1 : h1.IsList l vs.toArray := ⟨o, k1 _ _ ho', hc, n, hdt⟩
  refine wpAny_bind (wpAny_pyIter_list (s := { s with heap := h1, toks := tk1 }) hl1 ?_)
  have hdh1 : s.heap.objs.size < h1.objs.size := dict_lt (hnew.at fun o e => k1 _ o e)
  have hlh1 : l < h1.objs.size := Heap.lt_size (k1 _ _ ho')
  have kk : ∀ b o, s.heap.get? b = some o → (h1.push { cls := .type "list_iterator", data := .fields #[.ref l, .int 0 0] }).get? b = some o := fun b o e => Heap.get?_push_of_some _ (k1 b o (Heap.get?_push_of_some _ e))
  have fresh : ∀ b, b < s.heap.objs.size → b ∉ [s.heap.objs.size, h1.objs.size] := fun b hb hm => by
    rcases List.mem_cons.mp hm with q | hm
    · exact Nat.ne_of_lt hb q
    · exact Nat.ne_of_lt (Nat.lt_trans hb hdh1) (List.mem_singleton.mp hm)
  refine wpAny_pure ⟨plainId_quiet plain_upd_loop _, ?_⟩
  refine updLoop (A := A.in1) (s := { s with heap := h1.push { cls := .type "list_iterator", data := .fields #[.ref l, .int 0 0] }, toks := tk1 }) (d := s.heap.objs.size) (I := h1.objs.size) (l := l) (ys := vs) (ps := ps) hh hnd hsz (Nat.ne_of_lt hdh1) (Nat.ne_of_lt hls) (Nat.ne_of_lt hlh1) (fun h2 tk2 hd2 k2 => ?_) vs.length 0 _ _ rfl ⟨_, Heap.get?_push_size _ rfl, rfl, rfl⟩ (hl1.push _) ?_ ?_ (fun _ _ _ e => e)
  · exact ⟨rfl, hQ _ h2 tk2 (Nat.le_refl _) hd2 fun b o e => k2 b o (fresh b (Heap.lt_size e)) (kk b o e)⟩
  · refine ⟨ht.1, fun j y hy => ?_⟩
    obtain ⟨T, k, t, v, e, _, ⟨oT, hoT, r⟩, hp⟩ := ht.2 j y hy
    exact ⟨T, k, t, v, e, fresh T (Heap.lt_size hoT), ⟨oT, kk _ _ hoT, r⟩, hp⟩
  · exact hnew.at fun o e => Heap.get?_push_of_some _ (k1 _ o e)
end
end Mine
namespace Mine
open PySem PySem.W PyProof.Rows PySem.Calls

/-- a relation to what was made, that stands under changes to W alone -/
def Apart (F : List Addr → Heap → Value → Value → Prop) : Prop :=
  ∀ W h h' v y, F W h v y → (∀ b o, b ∉ W → h.get? b = some o → h'.get? b = some o) → F W h' v y

section
variable {prog : Program} {w : World} {A : Around} {E : Value → Shared → Prop} {s : Shared} {R : Result → Shared → Prop}

theorem loopH {elt iter : Expr} {x : Str} {px : Pos} {scope : Scope} {pos : Pos} {I D : Addr} {fp wr : List Addr} {n : Nat} {P : Nat → Value → Prop} {St : Nat → Heap → Prop} {cenv : Env} {m : Str → Option Value}
    (W : Walks prog w A I fp wr n P St) (F : List Addr → Heap → Value → Value → Prop) (hF : Apart F) (hx : cenv.kindOf x = some .local) (hk : cenv.scope.kind = .function) (hDC : D ≠ cenv.locals) (hDf : D ∉ fp) (hCf : cenv.locals ∉ fp)
    (hlive : ∀ i h, St i h → ∀ b ∈ wr, ∃ o, h.get? b = some o)
    (hst : St 0 s.heap) (hacc : s.heap.PlainList D #[]) (hn : s.heap.Ns cenv.locals m) (hsz : n ≤ 100)
    (helt : ∀ i v s₃ m₃, i < n → P i v → s₃.heap.Ns cenv.locals m₃ → m₃ x = some v → (∀ b o, b ≠ cenv.locals → b ∉ wr → b ≠ D → s.heap.get? b = some o → s₃.heap.get? b = some o) →
      wpAny (model prog w) A (eval elt cenv) (fun y s₄ => (∀ Wd : List Addr, (∀ b ∈ Wd, ∃ o, s₃.heap.get? b = some o) → F Wd s₄.heap v y) ∧ Keeps s₃ s₄) No s₃)
    (hR : ∀ h' tk m' (ys vs : List Value), h'.Ns cenv.locals m' → h'.PlainList D ys.toArray → vs.length = n → (∀ j v, vs[j]? = some v → P j v) → Paired (F (D :: cenv.locals :: wr) h') vs ys →
      (∀ b o, b ≠ cenv.locals → b ∉ wr → b ≠ D → s.heap.get? b = some o → h'.get? b = some o) → R (.ok .next) { s with heap := h', toks := tk }) :
    codeAny (model prog w) A (.compLoop (.ListComp elt [⟨.Name x px, iter, [], 0⟩] scope pos) 0 (.ref I) (.ref D) cenv) R s := by
  have hCw : cenv.locals ∉ wr := fun h => hCf (W.sub _ h)
  have hDw : D ∉ wr := fun h => hDf (W.sub _ h)
  refine codeAny_compLoop_list
    (fun k s' => ∃ h' tk m', ∃ ys vs : List Value, s' = { s with heap := h', toks := tk } ∧ St vs.length h' ∧ h'.PlainList D ys.toArray ∧ h'.Ns cenv.locals m' ∧ (∀ j v, vs[j]? = some v → P j v) ∧
      Paired (F (D :: cenv.locals :: wr) h') vs ys ∧ vs.length ≤ n ∧ k = n + 1 - vs.length ∧
      (∀ b o, b ≠ cenv.locals → b ∉ wr → b ≠ D → s.heap.get? b = some o → h'.get? b = some o)) ?_ (n + 1)
    ⟨s.heap, s.toks, m, [], [], rfl, hst, hacc, hn, by simp, .nil, Nat.zero_le _, rfl, fun _ _ _ _ _ e => e⟩
  rintro k s' ⟨H, tk, m', ys, vs, rfl, hst', hacc', hn', hP, hFp, hi, rfl, hkp⟩
  have off : ∀ {h₁ h₂ : Heap}, (∀ b o, b ≠ cenv.locals → b ∉ wr → b ≠ D → h₁.get? b = some o → h₂.get? b = some o) → ∀ b o, b ∉ D :: cenv.locals :: wr → h₁.get? b = some o → h₂.get? b = some o := fun hk b o hb e =>
    hk b o (fun q => hb (q ▸ .tail _ (.head _))) (fun q => hb (.tail _ (.tail _ q))) (fun q => hb (q ▸ .head _)) e
  by_cases hlt : vs.length < n
  · refine W.item vs.length _ _ _ hlt hst' fun v h₁ tk₁ hPv hst₁ hk₁ => ?_
    refine wpAny_assign_Name (wpAny_storeName_local (s := { s with heap := h₁, toks := tk₁ }) hx (hn'.at' fun o e => hk₁ _ o hCw e) (fun h₂ hn₂ hs₂ => ?_) (by rw [hk]; rfl))
    have up₂ : ∀ b o, b ≠ cenv.locals → b ∉ wr → H.get? b = some o → h₂.get? b = some o := fun b o hbC hbf e => hs₂.extBut b o hbC (hk₁ b o hbf e)
    have hst₂ : St (vs.length + 1) h₂ := W.frame _ _ _ hst₁ fun b hb o e => hs₂.extBut b o (fun h => hCf (h ▸ hb)) e
    refine wpAny_mono (helt vs.length v { s with heap := h₂, toks := _ } _ hlt hPv hn₂ (by simp) fun b o hbC hbf hbD e => up₂ b o hbC hbf (hkp b o hbC hbf hbD e)) (fun y s₄ h₄ => ?_) fun _ _ f => f.elim
    obtain ⟨hFy, h₄, tk₄, rfl, hk₄⟩ := h₄
    have hacc₂ : h₂.PlainList D ys.toArray := hacc'.at fun o e => up₂ D o hDC hDw e
    have hFy' := hFy (D :: cenv.locals :: wr) fun b hb => by
      rcases List.mem_cons.mp hb with q | hb
      · obtain ⟨_, ho⟩ := hacc₂; exact ⟨_, q ▸ ho⟩
      · rcases List.mem_cons.mp hb with q | hb
        · obtain ⟨o, _, _, ho, _⟩ := hn₂; exact ⟨o, q ▸ ho⟩
        · exact hlive _ _ hst₂ b hb
    have hys : ys.toArray.size ≤ sizeLine := by
      have e1 := hFp.length
      rw [List.size_toArray]
      exact Nat.le_trans (show ys.length ≤ 100 by omega) (by decide)
    have hacc₄ : h₄.PlainList D ys.toArray := hacc₂.at fun o e => hk₄ _ o e
    refine wpAny_list_append_plain (s := { s with heap := h₄, toks := tk₄ }) (hsz := hys) hacc₄ fun h₅ hl₅ hs₅ => ?_
    have up₅ : ∀ b o, b ≠ cenv.locals → b ∉ wr → b ≠ D → H.get? b = some o → h₅.get? b = some o := fun b o hbC hbf hbD e => hs₅.extBut b o hbD (hk₄ b o (up₂ b o hbC hbf e))
    refine ⟨n + 1 - (vs.length + 1), by omega, h₅, tk₄, _, ys ++ [y], vs ++ [v], rfl, ?_, by simpa using hl₅, (hn₂.keeps hk₄).sameBut hs₅ (Ne.symm hDC), ?_, ?_, (by rw [List.length_append, List.length_singleton]; exact hlt), (by rw [List.length_append, List.length_singleton]), fun b o hbC hbf hbD e => up₅ b o hbC hbf hbD (hkp b o hbC hbf hbD e)⟩
    · rw [List.length_append, List.length_singleton]
      exact W.frame _ _ _ (W.frame _ _ _ hst₂ fun b _ o e => hk₄ b o e) fun b hb o e => hs₅.extBut b o (fun q => hDf (q ▸ hb)) e
    · intro j u hj
      rcases Nat.lt_trichotomy j vs.length with h | h | h
      · exact hP j u (by rwa [List.getElem?_append_left h] at hj)
      · subst h; simp at hj; subst hj; exact hPv
      · have hnone : (vs ++ [v])[j]? = none := List.getElem?_eq_none (by rw [List.length_append, List.length_singleton]; omega)
        rw [hnone] at hj; cases hj
    · exact (hFp.mono fun a b hab => hF _ _ _ _ _ hab (off up₅)).snoc (hF _ _ _ _ _ hFy' fun b o hb e => hs₅.extBut b o (fun q => hb (q ▸ .head _)) e)
  · have hin : vs.length = n := by omega
    rw [hin] at hst'
    refine W.done _ _ _ hst' fun h₁ tk₁ hk₁ => ?_
    refine hR h₁ tk₁ m' ys vs (hn'.at' fun o e => hk₁ _ o hCw e) (hacc'.at fun o e => hk₁ D o hDw e) hin hP (hFp.mono fun a b hab => hF _ _ _ _ _ hab (off fun b o _ hbf _ e => hk₁ b o hbf e)) fun b o hbC hbf hbD e => hk₁ b o hbf (hkp b o hbC hbf hbD e)

/-- a list comprehension whose items are made anew -/
theorem compH {elt iter : Expr} {x : Str} {px : Pos} {scope : Scope} {cl : List (Str × Addr)} {pos : Pos} {env : Env} {Q : Value → Shared → Prop} (F : List Addr → Heap → Value → Value → Prop) (hF : Apart F)
    (hclos : closureFor scope env = pure cl) (hcell : ∀ y ∈ scope.names, y.2 ≠ .cell) (hkind : scope.kind = .function)
    (hnames : ∀ y ∈ scope.names, y.2 = .local → scope.names.lookup y.1 = some .local) (hx : scope.names.lookup x = some .local)
    (h : wpAny (model prog w) A (eval iter env) (fun xv s₁ => wpAny (model prog w) A (pyIter xv) (fun it s₂ => ∃ I fp wr n P St, it = .ref I ∧ Walks prog w A I fp wr n P St ∧ n ≤ 100 ∧ St 0 s₂.heap ∧ (∀ b ∈ fp, b < s₂.heap.objs.size) ∧ (∀ i h, St i h → ∀ b ∈ wr, ∃ o, h.get? b = some o) ∧
      (∀ C i v s₃ m₃, s₂.heap.objs.size ≤ C → i < n → P i v → s₃.heap.Ns C m₃ → m₃ x = some v → (∀ b o, b ∉ wr → s₂.heap.get? b = some o → s₃.heap.get? b = some o) →
        wpAny (model prog w) A (eval elt (compEnvC scope cl C env)) (fun y s₄ => (∀ Wd : List Addr, (∀ b ∈ Wd, ∃ o, s₃.heap.get? b = some o) → F Wd s₄.heap v y) ∧ Keeps s₃ s₄) No s₃) ∧
      (∀ D h' tk (ys vs : List Value), s₂.heap.objs.size ≤ D → h'.PlainList D ys.toArray → vs.length = n → (∀ j v, vs[j]? = some v → P j v) → Paired (F [] h') vs ys → (∀ b o, b ∉ wr → s₂.heap.get? b = some o → h'.get? b = some o) → Q (.ref D) { s₂ with heap := h', toks := tk })) No s₁) No s)
    (hFn : ∀ W h v y, F W h v y → F [] h v y)
    (hs : ∀ x, foldedSetIterable iter env x = pure x := by intro _; rfl) :
    wpAny (model prog w) A (eval (.ListComp elt [⟨.Name x px, iter, [], 0⟩] scope pos) env) Q No s := by
  rw [eval_ListComp]
  refine wpAny_comprehension_free (use := none) rfl hs hclos hkind hnames (wpAny_mono h (fun xv s₁ h₁ => wpAny_mono h₁ (fun it s₂ h₂ => ?_) fun _ _ f => f) fun _ _ f => f)
  obtain ⟨I, fp, wr, n, P, St, rfl, W, hsz, hst, hfp, hlive, helt, hQ⟩ := h₂
  refine wpAny_newObj_type (wpAny_newFunctionEnv hcell (by intro y hy; simp at hy) (fun h₁ hns₁ hsb₁ => ?_) hkind)
  dsimp only at hns₁ hsb₁ ⊢
  generalize hH2 : s₂.heap.push { cls := .type "list", dict := none, data := .seq ([] : List Value).toArray } = H2 at hns₁ hsb₁ ⊢
  have hC : H2.objs.size = s₂.heap.objs.size + 1 := by rw [← hH2, Heap.size_push]
  have hDC : s₂.heap.objs.size ≠ H2.objs.size := by rw [hC]; exact Nat.ne_of_lt (Nat.lt_succ_self _)
  have below : ∀ b, b < s₂.heap.objs.size → b ≠ H2.objs.size ∧ b ≠ s₂.heap.objs.size := fun b hb => ⟨by rw [hC]; exact Nat.ne_of_lt (Nat.lt_succ_of_lt hb), Nat.ne_of_lt hb⟩
  have old : ∀ b o, s₂.heap.get? b = some o → h₁.get? b = some o := fun b o e => hsb₁.extBut b o (below b (Heap.lt_size e)).1 (Heap.get?_push_of_some _ (hH2 ▸ Heap.get?_push_of_some _ e))
  have hacc : h₁.PlainList s₂.heap.objs.size #[] := ⟨_, hsb₁.extBut _ _ hDC (Heap.get?_push_of_some _ (hH2 ▸ Heap.get?_push_size _ rfl))⟩
  have hst₁ : St 0 h₁ := W.frame _ _ _ hst fun b _ o e => old b o e
  have loop : ∀ s₃ : Shared, s₃ = { s₂ with heap := h₁, toks := s₂.toks + ([] : List (Str × Value)).length } →
      codeAny (model prog w) A (.compLoop (.ListComp elt [⟨.Name x px, iter, [], 0⟩] scope pos) 0 (.ref I) (.ref s₂.heap.objs.size) (compEnvC scope cl H2.objs.size env))
        (compPost (model prog w) A No none Q (.ref s₂.heap.objs.size) H2.objs.size) s₃ := by
    rintro s₃ rfl
    refine loopH (s := { s₂ with heap := h₁, toks := _ }) (cenv := compEnvC scope cl H2.objs.size env) W F hF (lookup_relabel_local hx) (by simp [compEnvC, relabel, hkind]) hDC (fun hm => Nat.lt_irrefl _ (hfp _ hm)) (fun hm => ?_) hlive hst₁ hacc hns₁ hsz
      (fun i v s₃ m₃ hi hv hn hm hk => helt _ i v s₃ m₃ (by show _ ≤ H2.objs.size; rw [hC]; exact Nat.le_succ _) hi hv hn hm (fun b o hbf e => hk b o (below b (Heap.lt_size e)).1 hbf (below b (Heap.lt_size e)).2 (old b o e))) (fun h' tk m' ys vs hn hpl hlen hP hFF hk => ?_)
    · have : H2.objs.size < s₂.heap.objs.size := hfp _ hm
      rw [hC] at this
      exact Nat.lt_irrefl _ (Nat.lt_of_succ_lt this)
    · refine ⟨m', hn, fun h'' hs'' => hQ _ h'' tk ys vs (Nat.le_refl _) (hpl.extBut hs''.extBut hDC) hlen hP (hFF.mono fun a b hab => hFn _ _ _ _ (hF _ _ _ _ _ hab fun b o hb e => hs''.extBut b o (fun q => hb (q ▸ .tail _ (.head _))) e)) fun b o hbf e => ?_⟩
      exact hs''.extBut b o (below b (Heap.lt_size e)).1 (hk b o (below b (Heap.lt_size e)).1 hbf (below b (Heap.lt_size e)).2 (old b o e))
  exact codeAny_compStart_list (loop _ rfl) (W.self 0 _ _ _ hst₁ (loop _ rfl))
end
end Mine
namespace Mine
open PySem PySem.W PyProof.Rows PySem.Calls

abbrev eLaw (L : Addr) : Env := envOfC "law" (fscope dLaw) L 43 (.ref 42)
abbrev cLaw (L : Addr) : List (Str × Addr) := cellsFrom (L + 1) (fscope dLaw).names []
abbrev lawSt (i : Nat) : Stmt := (fbody dLaw).getD i (.Pass default)
def tryBody : Stmt → List Stmt
  | .Try b _ _ _ _ => b
  | _ => []
def forIter : Stmt → Expr
  | .For _ i _ _ _ => i
  | _ => default
def callArg : Expr → Expr
  | .Call _ (a :: _) _ _ => a
  | _ => default
abbrev lawFor : Stmt := (tryBody (lawSt 3)).getD 0 (.Pass default)
/-- the dict that is handed over -/
abbrev lawDict : Expr := callArg (forIter lawFor)

def Pel (prog : Program) (w : World) (D : List (Nat × List Nat)) (hb : Heap) (Wd : List Addr) (h : Heap) (v y : Value) : Prop :=
  ∃ n js T S t t', v = .str (nm n) t ∧ n < 7 ∧ depsAt D n = some js ∧ y = .ref T ∧ T ∉ Wd ∧ h.IsTuple T #[.str (nm n) t', .ref S] ∧ S ∉ Wd ∧ NS prog w h S js ∧ hb.get? S = none
theorem Pel.apart (prog : Program) (w : World) (D : List (Nat × List Nat)) (hb : Heap) : Apart (Pel prog w D hb) := by
  rintro W h h' v y ⟨n, js, T, S, t, t', e1, e2, e3, e4, e5, ⟨o, ho, r⟩, e6, e7, e8⟩ hk
  exact ⟨n, js, T, S, t, t', e1, e2, e3, e4, e5, ⟨o, hk _ _ e5 ho, r⟩, e6, e7.at fun o e => hk _ _ e6 e, e8⟩

section
variable {prog : Program} {w : World} {A : Around} {E : Value → Shared → Prop} {s : Shared} {h₀ h : Heap} {L d : Addr} {D : List (Nat × List Nat)} {kvs : List (Str × Value)}

theorem nodup_nm {js : List Nat} (h : js.Nodup) (hb : ∀ j ∈ js, j < 7) : (js.map nm).Nodup := by
  induction js with
  | nil => exact List.nodup_nil
  | cons a r ih =>
    obtain ⟨h1, h2⟩ := List.nodup_cons.mp h
    refine List.nodup_cons.mpr ⟨fun hm => ?_, ih h2 fun j hj => hb j (.tail _ hj)⟩
    obtain ⟨x, hx, e⟩ := List.mem_map.mp hm
    exact h1 (nm_inj (hb x (.tail _ hx)) (hb a (.head _)) e ▸ hx)

theorem pairsBuilt {hb : Heap} : ∀ {vs ys : List Value} {D' : List (Nat × List Nat)}, Paired (Pel prog w D hb [] h) vs ys → vs.length = D'.length → (∀ (j : Nat) (v : Value), vs[j]? = some v → ∃ n js t, D'[j]? = some (n, js) ∧ v = Value.str (nm n) t) →
    (∀ p ∈ D', p.1 < 7 ∧ depsAt D p.1 = some p.2) → ∃ ps, TupsAre h [] ys ps ∧ SRel prog w h ps D' ∧ ∀ l ∈ refsOf ps, hb.get? l = none
  | [], [], [], .nil, _, _, _ => ⟨[], ⟨rfl, fun j y hy => by simp at hy⟩, .nil, fun l hl => by cases hl⟩
  | v :: vs, y :: ys, (n', js') :: D', .cons hv hr, hl, hP, hD => by
    obtain ⟨ps, ⟨hl2, ht⟩, hs, hrf⟩ := pairsBuilt hr (by simpa using hl) (fun j u hj => hP (j + 1) u (by simpa using hj)) fun p hp => hD p (.tail _ hp)
    obtain ⟨n, js, T, S, t, t', rfl, e2, e3, rfl, e5, e6, e7, e8, e10⟩ := hv
    obtain ⟨n2, js2, t2, q1, q2⟩ := hP 0 _ rfl
    simp at q1
    obtain ⟨rfl, rfl⟩ := q1
    injection q2 with q2 _
    obtain ⟨d1, d2⟩ := hD _ (.head _)
    have := nm_inj e2 d1 q2
    subst this
    have e9 : js = js' := by rw [e3] at d2; exact Option.some.inj d2
    subst e9
    refine ⟨(nm n, .ref S) :: ps, ⟨by simp [hl2], fun j y hy => ?_⟩, .cons e2 e8 hs, fun l hl => ?_⟩
    · cases j with
      | zero => simp at hy; subst hy; exact ⟨T, nm n, t', .ref S, rfl, by simp, e6, rfl⟩
      | succ j => simpa using ht j y (by simpa using hy)
    · obtain ⟨k, hk⟩ := refsOf_mem.mp hl
      rcases List.mem_cons.mp hk with q | q
      · injection q with _ q; injection q with q; rw [q]; exact e10
      · exact hrf l (refsOf_mem.mpr ⟨k, q⟩)

theorem lawDict_spec {cm : Str → Option Value} {Q : Value → Shared → Prop} (hh : A.handled = none) (G : Glo s.heap) (hroom : A.depth < recursionLimit)
    (X : Cl L (cLaw L) s.heap cm) (c1 : cm "leaning" = some (.ref d)) (lo : (d == sysModules) = false) (hD : s.heap.DictOf (strKind prog w) d kvs) (dr : DRel s.heap kvs D)
    (b1 : ∀ p ∈ D, p.1 < 7) (b2 : ∀ p ∈ D, ∀ j ∈ p.2, j < 7) (b3 : ∀ p ∈ D, p.2.length ≤ 7) (b4 : ∀ p ∈ D, p.2.Nodup) (hnd : (D.map (·.1)).Nodup)
    (hQ : ∀ dd h' tk ps, s.heap.get? dd = none → (dd == sysModules) = false → h'.DictOf (strKind prog w) dd ps → SRel prog w h' ps D → (∀ l ∈ refsOf ps, s.heap.get? l = none) → (∀ b o, s.heap.get? b = some o → h'.get? b = some o) → Q (.ref dd) { s with heap := h', toks := tk }) :
    wpAny (model prog w) A (eval lawDict (eLaw L)) Q No s := by
  have hDlen : D.length ≤ 7 := by
    have := nodup_len hnd fun n hn => by
      obtain ⟨p, hp, rfl⟩ := List.mem_map.mp hn
      exact b1 p hp
    simpa using this
  have hkl := dr.length
  obtain ⟨ep, hat⟩ := hD.dictAt
  refine Call_ (nmB G (fun _ _ k => ⟨k.dict0, k.dict1⟩) (PySem.callWith_type rfl (evalArgs_plain (spliced_cons ?_))))
  refine compH (Pel prog w D s.heap) (Pel.apart prog w D s.heap) (by rfl) (by decide) (by rfl) (by decide) (by rfl) (ldC X (by rfl) c1 (wpAny_pyIter_dict lo hat ?_)) ?_
  · have hne : d ≠ s.heap.objs.size := Nat.ne_of_lt (dict_lt hD)
    have kI : ∀ b o, s.heap.get? b = some o → (s.heap.push { cls := .type "dict_keyiterator", data := .fields #[.ref d, .int 0 0, .int kvs.length 0, .int ep 0] }).get? b = some o := fun b o e => Heap.get?_push_of_some _ e
    refine ⟨s.heap.objs.size, _, _, kvs.length, _, _, rfl, Walks.dictKeys hh _ d hne kvs ep, by omega, ⟨⟨_, Heap.get?_push_size _ rfl, rfl, rfl⟩, hat.push _⟩, ?_, ?_, ?_, ?_⟩
    · intro b hb
      show b < (s.heap.push _).objs.size
      rw [Heap.size_push]
      rcases List.mem_cons.mp hb with q | hb
      · rw [q]; exact Nat.lt_succ_self _
      · rw [List.mem_singleton.mp hb]; exact Nat.lt_succ_of_lt (dict_lt hD)
    · intro i h hst b hb
      obtain ⟨o, ho, _⟩ := hst.1
      exact ⟨o, (List.mem_singleton.mp hb) ▸ ho⟩
    · intro C i v s₃ m₃ hC hi hP hns hm hk
      have hk' : ∀ b o, s.heap.get? b = some o → s₃.heap.get? b = some o := fun b o e => hk b o (fun hm => Nat.ne_of_lt (Heap.lt_size e) (List.mem_singleton.mp hm)) (kI b o e)
      obtain ⟨k, x, ek, hkk⟩ := hP
      have hn7 : ∃ n, n < 7 ∧ k = nm n ∧ n ∈ D.map (·.1) := by
        have e1 : (kvs.map (·.1))[i]? = some k := by rw [List.getElem?_map, ek]; rfl
        rw [dr.keys, List.getElem?_map] at e1
        cases q : D[i]? with
        | none => rw [q] at e1; cases e1
        | some p => rw [q] at e1; cases e1; exact ⟨p.1, b1 p (List.mem_of_getElem? q), rfl, List.mem_map.mpr ⟨p, List.mem_of_getElem? q, rfl⟩⟩
      obtain ⟨n, hn, rfl, hnD⟩ := hn7
      obtain ⟨t, rfl⟩ := strKind_isStr hkk
      rcases dr.at hn b1 with ⟨q1, _⟩ | ⟨js, l, q1, q2, q3, _⟩
      · exfalso
        unfold depsAt at q1
        rw [Option.map_eq_none_iff, List.find?_eq_none] at q1
        obtain ⟨p, hp, e⟩ := List.mem_map.mp hnD
        exact q1 p hp (by simpa using e)
      have hjm : ∃ p ∈ D, p.2 = js := by
        unfold depsAt at q1
        rw [Option.map_eq_some_iff] at q1
        obtain ⟨p, hp, e⟩ := q1
        exact ⟨p, List.mem_of_find?_eq_some hp, e⟩
      obtain ⟨p, hpD, rfl⟩ := hjm
      have G3 : Glo s₃.heap := G.keeps hk'
      refine Tuple_ (spliced_more (wpAny_Name (wpAny_loadName_local (by rfl) (by rfl) hns hm ?_) (by decide)))
      refine spliced_more (Call_ (nmB G3 (fun _ _ k => ⟨k.set0, k.set1⟩) (PySem.callWith_type rfl (evalArgs_plain (spliced_cons ?_)))))
      refine wpAny_Subscript_Name PySem.F.slot_dict_getitem.lookup (wpAny_Name (wpAny_loadName_cell (by rfl) (by rfl) (by rfl) (c1 ▸ (X.cell _ (L + 1) (by rfl)).keeps hk')
        (wpAny_Name (wpAny_loadName_local (by rfl) (by rfl) hns hm ⟨(hD.at fun o e => hk' _ o e).typeIs, ?_⟩) (by decide))) (by decide))
      refine wpAny_getItem_of (k := nm n) (strKind_is prog w _ _) (hD.at fun o e => hk' _ o e).mapOf q2 (spliced_nil ?_)
      refine setOfList (s := { s₃ with toks := _ }) hh (q3.at fun o e => hk' _ o e) (by rw [List.length_map]; have := b3 p hpD; omega) (nodup_nm (b4 p hpD) (b2 p hpD)) fun S h4 tk4 eS k4 hS => ?_
      refine spliced_none (newTuple_raw (s := { s₃ with heap := h4, toks := tk4 }) (fun T h5 eT hT k5 z5 => ?_) (show 2 ≤ sizeLine by decide))
      have hSn : s₃.heap.get? S = none := get_none (Nat.le_of_eq eS.symm)
      have hTn : s₃.heap.get? T = none := by
        have h1 : s₃.heap.objs.size < h4.objs.size := by have := hS.lt; rw [eS] at this; exact this
        exact get_none (by rw [eT]; exact Nat.le_of_lt h1)
      refine ⟨fun Wd hWd => ⟨n, p.2, T, S, t, t, rfl, hn, q1, rfl, ?_, ⟨_, hT, rfl, _, rfl⟩, ?_, NS.at (h := h4) ⟨hS, fun j hj => b2 p hpD j hj⟩ fun o e => k5 _ o e, ?_⟩, h5, tk4, rfl, fun b o e => k5 b o (k4 b o e)⟩
      · intro hm
        obtain ⟨o, ho⟩ := hWd T hm
        rw [hTn] at ho; cases ho
      · intro hm
        obtain ⟨o, ho⟩ := hWd S hm
        rw [hSn] at ho; cases ho
      · exact get_none_of hk' (Nat.le_of_eq eS.symm)
    · intro l h6 tk6 ys vs hl hpl hlen hP hFF k6
      have k6' : ∀ b o, s.heap.get? b = some o → h6.get? b = some o := fun b o e => k6 b o (fun hm => Nat.ne_of_lt (Heap.lt_size e) (List.mem_singleton.mp hm)) (kI b o e)
      obtain ⟨ps, ht, hs, hrf⟩ := pairsBuilt (D' := D) hFF (by rw [hlen, hkl]) (fun j v hj => by
        obtain ⟨k, x, ek, hkk⟩ := hP j v hj
        have e1 : (kvs.map (·.1))[j]? = some k := by rw [List.getElem?_map, ek]; rfl
        rw [dr.keys, List.getElem?_map] at e1
        cases q : D[j]? with
        | none => rw [q] at e1; cases e1
        | some p =>
          rw [q] at e1; cases e1
          obtain ⟨t, rfl⟩ := strKind_isStr hkk
          exact ⟨p.1, p.2, t, rfl, rfl⟩) (fun p hp => ⟨b1 p hp, by
            obtain ⟨i, hi⟩ := List.getElem?_of_mem hp
            exact depsAt_get hnd hi⟩)
      obtain ⟨c, hpl⟩ := hpl
      refine spliced_nil (callDictPairs (s := { s with heap := h6, toks := tk6 }) hh hpl rfl rfl rfl ht ?_ ?_ fun dd h7 tk7 hdd hd7 k7 => ?_)
      · rw [hs.keys, show (D.map fun p => nm p.1) = (D.map (·.1)).map nm by rw [List.map_map]; rfl]
        exact nodup_nm hnd fun n hn => by
          obtain ⟨p, hp, rfl⟩ := List.mem_map.mp hn
          exact b1 p hp
      · rw [hs.length]; omega
      · exact hQ dd h7 tk7 ps (get_none_of k6' hdd) ((G.keeps k6').notSys hdd) hd7 (hs.at fun b _ o e => k7 b o e) hrf fun b o e => k7 b o (k6' b o e)
  · rintro W h v y ⟨n, js, T, S, t, t', e1, e2, e3, e4, e5, e6, e7, e8, e9⟩
    exact ⟨n, js, T, S, t, t', e1, e2, e3, e4, by simp, e6, by simp, e8, e9⟩
end
end Mine
namespace Mine
open PySem PySem.W PyProof.Rows PySem.Calls

section
variable {prog : Program} {w : World} {A : Around} {E : Value → Shared → Prop} {s : Shared} {t l : Addr} {js : List Nat}

theorem hintSet (hT : s.TypeIs (.ref t) "set") {Q : Bool → Shared → Prop} (h : Q false s) : wpAny (model prog w) A (Builtin.List.listLengthHint (.ref t)) Q E s := by
  unfold Builtin.List.listLengthHint
  refine wpAny_bind (wpAny_specialOf hT PySem.F.slot_set_len.lookup ?_)
  generalize hid : ("set.__len__" : String) = id0
  wp_delta
  rw [show splitId id0 = some ("set", "__len__") from by subst hid; decide +kernel]
  subst hid
  refine wpAny_bind (wpAny_isInstance (T := "set") (b := true) hT sub_set_self ?_)
  refine wpAny_ite_split (fun hab => absurd hab (by decide)) (fun _ => ?_)
  refine wpAny_ite_split (fun _ => ?_) (fun hab => absurd (by decide +kernel) hab)
  refine wpAny_bind (wpAny_typeOf hT ?_)
  exact wpAny_pure h

theorem items_strs {ks : List Nat} {acc : Array Value} (h : ItemsOf (fun i v => ∃ tk k, ks[i]? = some k ∧ v = Value.str (nm k) tk) acc ks.length) : StrsAre acc.toList (ks.map nm) := by
  obtain ⟨h1, h2⟩ := h
  have key : ∀ (l : List Value) (ks : List Nat), l.length = ks.length → (∀ (j : Nat) (v : Value), l[j]? = some v → ∃ tk k, ks[j]? = some k ∧ v = Value.str (nm k) tk) → StrsAre l (ks.map nm) := by
    intro l
    induction l with
    | nil =>
      intro ks h _
      cases ks with
      | nil => exact .nil
      | cons _ _ => simp at h
    | cons v l ih =>
      intro ks h hj
      cases ks with
      | nil => simp at h
      | cons k ks =>
        obtain ⟨tk, k', e1, rfl⟩ := hj 0 v rfl
        simp at e1; subst e1
        exact .cons _ _ (ih ks (by simpa using h) fun j v e => by simpa using hj (j + 1) v (by simpa using e))
  exact key acc.toList ks (by rw [Array.length_toList]; exact h1) fun j v e => h2 j v (by rw [← Array.getElem?_toList]; exact e)

theorem collectSet {Q : List Value → Shared → Prop} (hh : A.handled = none) (x : NS prog w s.heap t js)
    (hQ : ∀ h' tk dr (vs : List Value) (ks : List Nat), (∀ b o, s.heap.get? b = some o → h'.get? b = some o) → ks.Perm js → StrsAre vs (ks.map nm) → Q vs { s with heap := h', toks := tk, drawn := dr }) :
    wpAny (model prog w) A (collect (.ref t)) Q E s := by
  have hlt := x.lt
  have hjl := x.len
  unfold collect
  refine wpAny_bind (wpAny_runValue (codeAny_builtin PySem.F.entry_proto_collect ?_))
  rw [Around.under_plainId PySem.F.plain_proto_collect _]
  show wpAny _ A.in1 (newList [] >>= fun l => again (.builtin "list.__iadd__" ⟨[l, .ref t], []⟩)) _ _ s
  refine wpAny_bind (wpAny_newObj_type ?_)
  refine wpAny_pure ⟨plainId_quiet PySem.F.plain_list_iadd _, codeAny_builtin PySem.F.entry_list_iadd ?_⟩
  rw [Around.under_plainId PySem.F.plain_list_iadd _]
  have hS₁ : (s.heap.push { cls := .type "list", data := .seq ([] : List Value).toArray }).get? s.heap.objs.size = some { cls := .type "list", data := .seq #[] } := Heap.get?_push_size _ rfl
  have x1 : NS prog w (s.heap.push { cls := .type "list", data := .seq ([] : List Value).toArray }) t js := x.at fun o e => Heap.get?_push_of_some _ e
  have hSt : s.heap.objs.size ≠ t := Nat.ne_of_gt hlt
  show wpAny _ A.in1 (Builtin.List.listExtendWith (.ref s.heap.objs.size) (.ref t) (.ref s.heap.objs.size)) _ _ _
  unfold Builtin.List.listExtendWith
  refine wpAny_bind (wpAny_typeOf x1.1.typeIs ?_)
  have h1 : Builtin.List.listSameRef (.ref s.heap.objs.size) (.ref t) = false := by simp [Builtin.List.listSameRef, hSt]
  have h2 : (Value.type "set" == Value.type "list") = false := by decide
  have h3 : (Value.type "set" == Value.type "tuple") = false := by decide
  simp only [h1, h2, h3, Bool.or_false, Bool.false_eq_true, if_false]
  refine wpAny_bind (nsIter x1 fun I h2 dr fp ks St k2 hI hI' hper W st hf1 hf2 => ?_)
  have hS2 := k2 _ _ hS₁
  have hSf : s.heap.objs.size ∉ fp := fun hm => by
    rcases hf1 _ hm with q | q
    · exact hSt q
    · have q' : (s.heap.push { cls := .type "list", data := .seq ([] : List Value).toArray }).objs.size ≤ s.heap.objs.size := q
      rw [Heap.size_push] at q'
      exact Nat.not_succ_le_self _ q'
  have hkl : ks.length ≤ 7 := by rw [hper.length_eq]; exact hjl
  have k02 : ∀ b o, s.heap.get? b = some o → h2.get? b = some o := fun b o e => k2 b o (Heap.get?_push_of_some _ e)
  have hI1 : s.heap.objs.size < I := by
    have q' : (s.heap.push { cls := .type "list", data := .seq ([] : List Value).toArray }).objs.size ≤ I := hI
    rw [Heap.size_push] at q'; exact q'
  have key : ∀ (R : Result → Shared → Prop), (∀ h' tk acc' c', (∀ b o, s.heap.get? b = some o → h'.get? b = some o) → h'.get? s.heap.objs.size = some { cls := .type "list", dict := none, data := .seq acc' c', slots := #[] } → StrsAre acc'.toList (ks.map nm) → R (.ok (.ret (.ref s.heap.objs.size))) { s with heap := h', toks := tk, drawn := dr }) →
      ∀ (h : Heap) (c₁ tk : Nat), St 0 h → (∀ b o, b ≠ s.heap.objs.size → h2.get? b = some o → h.get? b = some o) →
      h.get? s.heap.objs.size = some { cls := .type "list", data := .seq #[] c₁ } → codeAny (model prog w) A (.builtin "list.extend.loop" ⟨[.ref s.heap.objs.size, .ref I, .ref s.heap.objs.size], []⟩) R { s with heap := h, toks := tk, drawn := dr } := by
    intro R hR h c₁ tk hst hk hSh
    refine codeAny_extend_loopS (W A.in1 hh).toS (Nat.le_trans hkl (by decide)) s.heap.objs.size hSf (.ref s.heap.objs.size) ks.length 0 _ #[] c₁ rfl (Nat.zero_le _) hst hSh (ItemsOf.nil _) fun s' acc' c' hm hS' hacc => ?_
    rw [Moved.eq_with hm]
    refine hR s'.heap s'.toks acc' c' (fun b o e => hm.heap b o (fun hmem => ?_) (hk b o (Nat.ne_of_lt (Heap.lt_size e)) (k02 b o e))) hS' (items_strs hacc)
    rcases List.mem_cons.mp hmem with q | q
    · exact Nat.ne_of_lt (Heap.lt_size e) q
    · exact Nat.ne_of_lt (Nat.lt_trans (Heap.lt_size e) hI1) (List.mem_singleton.mp q)
  refine wpAny_bind (wpAny_holding (hintSet (x1.at fun o e => k2 _ o e).1.typeIs ?_))
  refine wpAny_ite_split (fun _ => ?_) (fun _ => wpAny_pure ⟨plainId_quiet PySem.F.plain_extend_loop _, key _ (fun h' tk acc' c' hk hS' hacc => by
    show wpAny _ A (load s.heap.objs.size >>= _) _ _ _
    exact wpAny_bind (wpAny_load (s := { s with heap := h', toks := tk, drawn := dr }) hS' (wpAny_pure (hQ h' tk dr acc'.toList ks hk hper hacc)))) _ _ _ st (fun b o _ e => e) hS2⟩)
  refine wpAny_bind (wpAny_rule ?_)
  refine wpAny_bind ?_
  show wpAny _ _ (updateSeq s.heap.objs.size (·.push .none) >>= fun _ => updateSeq s.heap.objs.size (·.pop)) _ _ _
  refine wpAny_bind (wpAny_updateSeq hS2 rfl ?_)
  have hS3 := Heap.get?_update_self (Obj.mapSeq (·.push Value.none)) hS2 rfl
  refine wpAny_updateSeq (hz := by seq_fits) hS3 rfl ?_
  have hS4 := Heap.get?_update_self (Obj.mapSeq (·.pop)) hS3 rfl
  refine wpAny_pure ⟨plainId_quiet PySem.F.plain_extend_loop _, key _ (fun h' tk acc' c' hk hS' hacc => by
    show wpAny _ A (load s.heap.objs.size >>= _) _ _ _
    exact wpAny_bind (wpAny_load (s := { s with heap := h', toks := tk, drawn := dr }) hS' (wpAny_pure (hQ h' tk dr acc'.toList ks hk hper hacc)))) _ _ _ ?_ (fun b o hb e => ?_) hS4⟩
  · refine (W A hh).frame 0 _ _ st fun b hb o e => ?_
    have hbS : b ≠ s.heap.objs.size := fun h => hSf (h ▸ hb)
    exact (Heap.get?_update_other _ _ (Ne.symm hbS)).trans ((Heap.get?_update_other _ _ (Ne.symm hbS)).trans e)
  · exact (Heap.get?_update_other _ _ (Ne.symm hb)).trans ((Heap.get?_update_other _ _ (Ne.symm hb)).trans e)

/-- sorted(a set of names) -/
theorem sortedSet {Q : Value → Shared → Prop} (hh : A.handled = none) (x : NS prog w s.heap t js)
    (hQ : ∀ D h' tk dr (ss : List Str), s.heap.get? D = none → LStr h' D ss → ss.Perm (js.map nm) → sortedS ss = true → (∀ b o, s.heap.get? b = some o → h'.get? b = some o) → Q (.ref D) { s with heap := h', toks := tk, drawn := dr }) :
    wpAny (model prog w) A (call (.builtin "sorted") [.ref t]) Q E s := by
  have hjl := x.len
  refine Calls.call_function_entry kind_sorted plain_sorted entry_sorted (args_sorted1 _) ?_
  unfold Builtin.«sorted»
  refine wpAny_bind (m := checkCount "sorted" 1 1 _) (wpAny_pure ?_)
  refine wpAny_bind (collectSet (A := A.in1) hh x fun h1 tk dr vs ks k1 hper hS => ?_)
  have hvl : vs.length ≤ 7 := by rw [strsAre_length hS, List.length_map, hper.length_eq]; exact hjl
  refine wpAny_bind (wpAny_newList ?_ (Nat.le_trans hvl (by decide)))
  have hoL : (h1.push (seqObj "list" vs.toArray 0)).get? h1.objs.size = some (seqObj "list" vs.toArray 0) := Heap.get?_push_size _ rfl
  refine wpAny_bind (wpAny_holding (wpAny_call_entry slot_list_sort ⟨_, hoL, rfl⟩ entry_list_sort (list_sort_treeK (s := { s with heap := h1.push (seqObj "list" vs.toArray 0), toks := tk, drawn := dr }) strKind_oneLt hoL hS.keysOf (fun v₁ v₂ rest e => keyKind_strs (by rw [← e]; exact hS)) (by omega) fun st' hp hs => ⟨_, rfl, ?_⟩) (args_list_sort _)))
  obtain ⟨ss, q1, q2, q3⟩ := sorted_out_str hS hp hs
  obtain ⟨e, he⟩ := sortedHeap_at (out := (arrOf st').map (·.2)) hoL
  refine wpAny_pure ⟨_, rfl, hQ h1.objs.size _ _ _ ss (get_none_of k1 (Nat.le_refl _)) ⟨((arrOf st').map (·.2)).toList, ⟨e, by rw [Array.toArray_toList]; exact he⟩, q1⟩ (q2.trans (hper.map nm)) q3 fun b o hb => ?_⟩
  have hb1 := k1 b o hb
  have hlt := Heap.lt_size hb1
  rw [sortedHeap_old (Nat.ne_of_lt hlt) (by rw [Heap.size_push]; exact Nat.lt_succ_of_lt hlt)]
  exact Heap.get?_push_of_some _ hb1

/-- sorted(a list of names) -/
theorem sortedList {xs : List Str} {Q : Value → Shared → Prop} (hl : LStr s.heap l xs) (hn : xs.length < 64)
    (hQ : ∀ D h' (ss : List Str), s.heap.get? D = none → LStr h' D ss → ss.Perm xs → sortedS ss = true → (∀ b o, s.heap.get? b = some o → h'.get? b = some o) → Q (.ref D) { s with heap := h' }) :
    wpAny (model prog w) A (call (.builtin "sorted") [.ref l]) Q E s := by
  obtain ⟨vs, hvs, hsa⟩ := hl
  refine sorted_strs hvs.isList hsa (by rw [strsAre_length hsa]; exact hn) fun out ss q1 q2 q3 => ?_
  obtain ⟨e, he⟩ := sortedAll_at s.heap vs out
  exact hQ _ _ ss (get_none (Nat.le_succ _)) ⟨out.toList, ⟨e, by rw [Array.toArray_toList]; exact he⟩, q1⟩ q2 q3 fun b o hb => sortedAll_old hb
end
end Mine
namespace Mine
open PySem PySem.W PyProof.Rows PySem.Calls

/-- one lot, told: a sorted list of names -/
def LotAt (Wd : List Addr) (h : Heap) (y : Value) (X : List Nat) : Prop := ∃ T ss, y = .ref T ∧ T ∉ Wd ∧ LStr h T ss ∧ ss.Perm (X.map nm) ∧ sortedS ss = true
def LotsAt (Wd : List Addr) (h : Heap) (l : Addr) (lots : List (List Nat)) : Prop := ∃ ys : List Value, h.PlainList l ys.toArray ∧ Paired (LotAt Wd h) ys lots
theorem LotAt.off {Wd : List Addr} {h h' : Heap} {y : Value} {X : List Nat} (x : LotAt Wd h y X) (hk : ∀ b o, b ∉ Wd → h.get? b = some o → h'.get? b = some o) : LotAt Wd h' y X :=
  let ⟨T, ss, e, hT, hl, r⟩ := x; ⟨T, ss, e, hT, hl.at fun o e => hk _ _ hT e, r⟩
theorem LotsAt.off {Wd : List Addr} {h h' : Heap} {l : Addr} {lots : List (List Nat)} (x : LotsAt Wd h l lots) (hk : ∀ b o, b ∉ Wd → h.get? b = some o → h'.get? b = some o) (hl : ∀ o, h.get? l = some o → h'.get? l = some o) : LotsAt Wd h' l lots :=
  let ⟨ys, hp, r⟩ := x; ⟨ys, hp.at hl, r.mono fun _ _ q => q.off hk⟩

abbrev lawWd (L L0 tl : Addr) : List Addr := [16, L, L + 1, L0, tl]
def tgtName : Stmt → Pos
  | .For (.Name _ p) _ _ _ _ => p
  | _ => default

/-- what stands in the law while lots are told -/
structure Mid (prog : Program) (w : World) (h₀ : Heap) (L L0 tl : Addr) (m : Str → Option Value) (lots : List (List Nat)) (s s' : Shared) : Prop where
  sv : Sv h₀ s'.heap
  ns : ∃ m', s'.heap.Ns L0 m' ∧ ∀ x : Str, x ≠ "lot" → m' x = m x
  lots : LotsAt (lawWd L L0 tl) s'.heap tl lots
  stp : Stp (lawWd L L0 tl) s s'

section
variable {prog : Program} {w : World} {A : Around} {E : Value → Shared → Prop} {s : Shared} {h₀ : Heap} {L L0 tl a : Addr} {lots : List (List Nat)} {refused : Bool} {g : Nat} {m : Str → Option Value} {R : Result → Shared → Prop}

theorem lawLoop (hh : A.handled = none) (hroom : A.depth < recursionLimit) (hf : A.frames = some [eLaw L0]) (hm : m "told" = some (.ref tl))
    (hne : tl ≠ 16 ∧ tl < L ∧ tl ≠ L0) (hx : Going prog w A.in1 h₀ L L0 (eLaw L0) [L0, tl] lots refused a g 0 s) (hM : Mid prog w h₀ L L0 tl m [] s s) (hnew : h₀.get? L0 = none ∧ h₀.get? tl = none)
    (hlots : ∀ X ∈ lots, X.Nodup ∧ X.length ≤ 7) (hll : lots.length ≤ 100)
    (hN : ∀ s', refused = false → Mid prog w h₀ L L0 tl m lots s s' → R (.ok .next) s')
    (hE : ∀ s₁ s' e base a0, refused = true → Mid prog w h₀ L L0 tl m lots s s₁ → (∀ b o, b ≠ L → b ≠ L0 → s₁.heap.get? b = some o → base.get? b = some o) → s₁.heap.UpToSlots s'.heap → Heap.HeldW base [eLaw L0] e (.type "ValueError") a0 L0 s'.heap → s'.gens = s₁.gens → s'.os = s₁.os → R (.error (.ref e)) s') :
    codeAny (model prog w) A (.forLoop (.Name "lot" (tgtName lawFor)) (.ref a) (forB lawFor) [] (eLaw L0)) R s := by
  have hL0 := hx.lt
  have hsub : ∀ b, b ∉ lawWd L L0 tl → b ∉ [16, L, L + 1] := fun b hb hm => hb (by
    rcases List.mem_cons.mp hm with q | hm
    · rw [q]; exact .head _
    · rcases List.mem_cons.mp hm with q | hm
      · rw [q]; exact .tail _ (.head _)
      · rw [List.mem_singleton.mp hm]; exact .tail _ (.tail _ (.head _)))
  have h0n : L0 ∉ [16, L, L + 1] := fun hm => by
    rcases List.mem_cons.mp hm with q | hm
    · exact hL0.1 q
    · rcases List.mem_cons.mp hm with q | hm
      · exact Nat.ne_of_lt hL0.2 q
      · exact Nat.ne_of_lt (Nat.lt_succ_of_lt hL0.2) (List.mem_singleton.mp hm)
  have htn : tl ∉ [16, L, L + 1] := fun hm => by
    rcases List.mem_cons.mp hm with q | hm
    · exact hne.1 q
    · rcases List.mem_cons.mp hm with q | hm
      · exact Nat.ne_of_lt hne.2.1 q
      · exact Nat.ne_of_lt (Nat.lt_succ_of_lt hne.2.1) (List.mem_singleton.mp hm)
  have up : ∀ {s₁ s₂ : Shared} {l : List (List Nat)}, Mid prog w h₀ L L0 tl m l s s₁ → Stp [16, L, L + 1] s₁ s₂ → Sv h₀ s₂.heap → Mid prog w h₀ L L0 tl m l s s₂ := fun {s₁ s₂ l} q st sv => by
    obtain ⟨m', hn, hmm⟩ := q.ns
    refine ⟨sv, ⟨m', hn.at' fun o e => st.heap _ o h0n e, hmm⟩, q.lots.off (fun b o hb e => st.heap b o (hsub b hb) e) (fun o e => st.heap tl o htn e), q.stp.trans (st.mono fun b hb => .inl ?_)⟩
    rcases List.mem_cons.mp hb with q | hb
    · rw [q]; exact .head _
    · rcases List.mem_cons.mp hb with q | hb
      · rw [q]; exact .tail _ (.head _)
      · rw [List.mem_singleton.mp hb]; exact .tail _ (.tail _ (.head _))
  refine codeAny_forLoop_any (fun n s' => ∃ j, n = lots.length + 1 - j ∧ j ≤ lots.length ∧ Going prog w A.in1 h₀ L L0 (eLaw L0) [L0, tl] lots refused a g j s' ∧ Mid prog w h₀ L L0 tl m (lots.take j) s s') ?_ (lots.length + 1)
    ⟨0, rfl, Nat.zero_le _, hx, by simpa using hM⟩
  rintro n s₀ ⟨j, rfl, hj, hg, mid⟩
  obtain ⟨m0, hn0, hm0⟩ := mid.ns
  refine nextSolve hh hroom mid.sv.gn.glo.nolimit ⟨m0, hn0⟩ hj hg (fun t T X s₁ hX hlv hT mT st sv hg1 => ?_) (fun s₁ hjl hr st sv => ?_) (fun s₁ s₂ e hjl hr st sv fl hn1 hgn hos => ?_)
  · have hjl : j < lots.length := (List.getElem?_eq_some_iff.mp hX).1
    have mid1 := up mid st sv
    obtain ⟨m1, hn1, hm1⟩ := mid1.ns
    refine wpAny_of_eq (a := ()) rfl ?_
    refine wpAny_assign_Name (wpAny_storeName_local (by rfl) hn1 (fun h2 hn2 hs2 => ?_) (by rfl))
    have k12 : ∀ b o, b ≠ L0 → s₁.heap.get? b = some o → h2.get? b = some o := fun b o hb e => (hs2.2 b hb).trans e
    obtain ⟨ys, hpl, hpr⟩ := mid1.lots
    have hpl2 : h2.PlainList tl ys.toArray := hpl.at fun o e => k12 tl o hne.2.2 e
    obtain ⟨c, hon⟩ := id hpl2
    have tL0 : t ≠ L0 := fun q => by
      obtain ⟨o, es, ep, ho, hd, _⟩ := hn1
      obtain ⟨es', ep', t', x', _, _⟩ := hT.1
      obtain ⟨o', ho', _, hd'⟩ := x'.obj
      rw [q, ho] at ho'
      cases ho'
      rw [hd] at hd'; cases hd'
    have hT2 : NS prog w h2 t T := hT.at fun o e => k12 t o tL0 e
    have sv2 : Sv h₀ h2 := sv.off [L0] (fun b hb => by rw [List.mem_singleton.mp hb]; exact hnew.1) fun b o hb e => k12 b o (fun q => hb (q ▸ .head _)) e
    have live1 : ∀ b ∈ lawWd L L0 tl, ∃ o, h2.get? b = some o := fun b hb => by
      rcases List.mem_cons.mp hb with q | hb
      · obtain ⟨_, _, _, _, _, _, _, _, _, _, op, _, _, _, _, _, _, _, e2, _⟩ := sv2.code
        exact ⟨op, q ▸ e2⟩
      · rcases List.mem_cons.mp hb with q | hb
        · obtain ⟨o, ho⟩ := hlv L (.head _); exact ⟨o, q ▸ k12 L o (Ne.symm (Nat.ne_of_lt hL0.2)) ho⟩
        · rcases List.mem_cons.mp hb with q | hb
          · obtain ⟨o, ho⟩ := hlv (L + 1) (.tail _ (.head _)); exact ⟨o, q ▸ k12 (L + 1) o (Ne.symm (Nat.ne_of_lt (Nat.lt_succ_of_lt hL0.2))) ho⟩
          · rcases List.mem_cons.mp hb with q | hb
            · obtain ⟨o, _, _, ho, _⟩ := hn2; exact ⟨o, q ▸ ho⟩
            · exact ⟨_, (List.mem_singleton.mp hb) ▸ hon⟩
    refine wpAny_mono (Q := fun fl s' => fl = .next ∧ ∃ D h' tk dr ss, s' = { s₁ with heap := h', toks := tk, drawn := dr } ∧ h2.get? D = none ∧ LStr h' D ss ∧ ss.Perm (T.map nm) ∧ sortedS ss = true ∧ h'.PlainList tl (ys ++ [Value.ref D]).toArray ∧ ∀ b o, b ≠ tl → h2.get? b = some o → h'.get? b = some o) (E := No) ?_ (fun fl s₃ hp => ?_) fun _ _ f => f.elim
    · refine wpAny_execs_cons (wpAny_Expr (MethodCall_ (wpAny_Name (wpAny_loadName_local (by rfl) (by rfl) hn2 (by rw [if_neg (by decide), hm1 _ (by decide)]; exact hm) (getMethod_list_append hon rfl rfl ?_)) (by decide))))
      refine callWith_method1 (spliced_more (Call_ (nmB (s := { s₁ with heap := h2, toks := _ }) sv2.gn.glo (fun _ _ k => ⟨k.sorted0, k.sorted1⟩) (PyProof.Rows.callWith_builtin1 (spliced_more
        (wpAny_Name (wpAny_loadName_local (s := { s₁ with heap := h2, toks := _ }) (by rfl) (by rfl) hn2 (by rw [if_pos rfl]) (spliced_none (sortedSet (s := { s₁ with heap := h2, toks := _ }) hh hT2 fun D h3 tk dr ss hD hss hp hso k3 => ?_))) (by decide)))))))
      have hpl3 : h3.PlainList tl ys.toArray := hpl2.at fun o e => k3 _ o e
      have hyl : ys.length ≤ 100 := by rw [hpr.length, List.length_take]; omega
      refine spliced_none (wpAny_list_append_plain (s := { s₁ with heap := h3, toks := tk, drawn := dr }) hpl3 (fun h4 hl4 hs4 => ?_) (by rw [List.size_toArray]; exact Nat.le_trans hyl (by decide)))
      have hDt : D ≠ tl := fun q => by rw [q, hon] at hD; cases hD
      exact wpAny_execs_nil ⟨rfl, D, h4, tk, dr, ss, rfl, hD, hss.at fun o e => (hs4.2 D hDt).trans e, hp, hso, by simpa using hl4, fun b o hb e => (hs4.2 b hb).trans (k3 b o e)⟩
    · obtain ⟨rfl, D, h4, tk, dr, ss, rfl, hD, hss, hp, hso, hl4, k4⟩ := hp
      have k14 : ∀ b o, b ∉ [L0, tl] → s₁.heap.get? b = some o → h4.get? b = some o := fun b o hb e => k4 b o (fun q => hb (q ▸ .tail _ (.head _))) (k12 b o (fun q => hb (q ▸ .head _)) e)
      have k14' : ∀ b o, b ∉ lawWd L L0 tl → s₁.heap.get? b = some o → h4.get? b = some o := fun b o hb e => k14 b o (fun hm => hb (by
        rcases List.mem_cons.mp hm with q | hm
        · rw [q]; exact .tail _ (.tail _ (.tail _ (.head _)))
        · rw [List.mem_singleton.mp hm]; exact .tail _ (.tail _ (.tail _ (.tail _ (.head _)))))) e
      refine ⟨lots.length + 1 - (j + 1), by omega, j + 1, rfl, hjl, hg1.move k14 rfl, ⟨sv.off [L0, tl] (fun b hb => ?_) k14, ⟨_, hn2.at' fun o e => k4 _ o (Ne.symm hne.2.2) e, fun x hx' => by rw [if_neg hx']; exact hm1 x hx'⟩, ⟨ys ++ [.ref D], hl4, ?_⟩, mid1.stp.trans ⟨k14', fun h => h, rfl⟩⟩⟩
      · rcases List.mem_cons.mp hb with q | hb
        · rw [q]; exact hnew.1
        · rw [List.mem_singleton.mp hb]; exact hnew.2
      · have et : lots.take (j + 1) = lots.take j ++ [X] := by rw [List.take_add_one, hX]; rfl
        rw [et]
        refine (hpr.mono fun _ _ q => q.off k14').snoc ⟨D, ss, rfl, fun hm => ?_, hss, hp.trans (List.Perm.map nm ((List.perm_ext_iff_of_nodup hT.nodup (hlots X (List.mem_of_getElem? hX)).1).mpr mT)), hso⟩
        obtain ⟨o, ho⟩ := live1 D hm
        rw [hD] at ho; cases ho
  · refine wpAny_execs_nil (hN s₁ hr (up (by rw [hjl, List.take_length] at mid; exact mid) st sv))
  · have mid1 := up (by rw [hjl, List.take_length] at mid; exact mid) st sv
    obtain ⟨base, a0, hfl, hbs, hup⟩ := fl
    refine wpAny_looks_onW (s := s₂) hf rfl hfl fun h' hheld hu => ?_
    exact hE s₁ { s₂ with heap := h' } e base a0 hr mid1 hbs (hup.trans hu) hheld hgn hos
end
end Mine
namespace Mine
open PySem PySem.W PyProof.Rows PySem.Calls

theorem ve_base : isSubtype (.type "ValueError") (.type "BaseException") = pure true := by rw [isSubtype_type]; kernel_rfl
theorem ve_self : isSubtype (.type "ValueError") (.type "ValueError") = pure true := by rw [isSubtype_type]; kernel_rfl
theorem ve_meta : isSubtype (.type ((Manifest.find? "ValueError").elim "type" fun x => x.metatype)) (.type "tuple") = pure false := by
  rw [isSubtype_type]; kernel_rfl

section
variable {prog : Program} {w : World} {A : Around} {E : Value → Shared → Prop} {s : Shared} {h₀ : Heap} {L0 tl d : Addr} {lots : List (List Nat)} {refused : Bool} {m cm : Str → Option Value} {D : List (Nat × List Nat)} {kvs : List (Str × Value)}

theorem law3 {Q : Flow → Shared → Prop} (hh : A.handled = none) (hg : A.guards = some []) (hu : A.units + 200 < cLine) (hroom : A.depth + 20 < recursionLimit) (hf : A.frames = some [eLaw L0])
    (sv : Sv h₀ s.heap) (X : Cl L0 (cLaw L0) s.heap cm) (c1 : cm "leaning" = some (.ref d)) (lo : (d == sysModules) = false) (hD : s.heap.DictOf (strKind prog w) d kvs) (dr : DRel s.heap kvs D)
    (b1 : ∀ p ∈ D, p.1 < 7) (b2 : ∀ p ∈ D, ∀ j ∈ p.2, j < 7) (b3 : ∀ p ∈ D, p.2.length ≤ 7) (b4 : ∀ p ∈ D, p.2.Nodup) (hnd : (D.map (·.1)).Nodup)
    (hn : s.heap.Ns L0 m) (hm : m "told" = some (.ref tl)) (hmr : m "is_refused" = some (.bool false)) (htl : s.heap.PlainList tl ([] : List Value).toArray) (hne : L0 ≠ 16 ∧ tl ≠ 16 ∧ tl ≠ L0) (hnew : h₀.get? L0 = none ∧ h₀.get? tl = none)
    (hr : Runs D lots refused) (hlots : ∀ X ∈ lots, X.Nodup ∧ X.length ≤ 7) (hll : lots.length ≤ 100)
    (hQ : ∀ s' m', s'.heap.Ns L0 m' → (∀ x : Str, x ≠ "lot" → x ≠ "is_refused" → m' x = m x) → m' "is_refused" = some (.bool refused) → LotsAt [] s'.heap tl lots → Sv h₀ s'.heap → Stp [16, L0, tl] s s' → Q .next s') :
    wpAny (model prog w) A (exec (lawSt 3) (eLaw L0)) Q No s := by
  have hL0s : L0 < s.heap.objs.size := hn.lt
  have htls : tl < s.heap.objs.size := let ⟨_, ho⟩ := htl; Heap.lt_size ho
  obtain ⟨o, pm, doc, ho, hdt, hcd⟩ := sv.gn.glo.fsolve
  refine wpAny_Try_except (wpAny_execs_cons (wpAny_For (wpAny_mono (E := No) (Q := fun x s₁ => wpAny (model prog w) A (pyIter x) (fun it s₂ => _) _ s₁) (Call_ (nmG sv.gn.glo (fun _ _ k => k.solve) (callWith_def_at ho hdt (spliced_more ?_)))) (fun _ _ q => q) fun _ _ f => f.elim)))
  refine lawDict_spec hh sv.gn.glo (by omega) X c1 lo hD dr b1 b2 b3 b4 hnd fun dd h1 tk1 ps hdd hddS hd1 hs1 hrf k1 => spliced_none ⟨k1 _ _ ho, ?_⟩
  have hn1 : h1.Ns L0 m := hn.keeps k1
  have htl1 : h1.PlainList tl ([] : List Value).toArray := htl.at fun o e => k1 _ o e
  have hL1 : L0 < h1.objs.size := hn1.lt
  have htl1s : tl < h1.objs.size := let ⟨_, ho⟩ := htl1; Heap.lt_size ho
  have live : ∀ b, s.heap.get? b = none → b ≠ L0 ∧ b ≠ tl ∧ b ≠ 16 := fun b hb => by
    refine ⟨fun q => ?_, fun q => ?_, fun q => ?_⟩
    · obtain ⟨o, _, _, ho, _⟩ := hn; rw [q, ho] at hb; cases hb
    · obtain ⟨_, ho⟩ := htl; rw [q, ho] at hb; cases hb
    · obtain ⟨_, _, _, _, _, _, _, _, _, _, op, _, _, _, _, _, _, _, e2, _⟩ := sv.code
      rw [q, e2] at hb; cases hb
  refine callSolve (s := { s with heap := h1, toks := tk1 }) (h₀ := h₀) (Ag := A.in1) (eL := eLaw L0) (L0 := L0) (Wc := [L0, tl]) (lots := lots) (refused := refused) (by omega) hh hg ?_ ?_ hf ((by rfl : (eLaw L0).scope.kind = .function) ▸ (by decide)) rfl ⟨hne.1, hL1⟩ (fun b hb => ?_) hr (sv.keeps k1) hd1 hs1 ?_ hnd hddS (live dd hdd).2.2 (fun hm => (live 16 (hrf 16 hm)).2.2 rfl) (fun hm => ?_) (fun l hl hm => ?_) (fun a h2 tk2 gs ha k2 hb2 sv2 gg => ?_)
  · simp only [Around.in1_units]; omega
  · show A.in1.depth + 10 < recursionLimit
    have : A.in1.depth = A.depth := rfl
    omega
  · rcases List.mem_cons.mp hb with q | hb
    · rw [q]; exact ⟨hL1, hne.1, hnew.1⟩
    · rw [List.mem_singleton.mp hb]; exact ⟨htl1s, hne.2.1, hnew.2⟩
  · have := nodup_len hnd fun n hn => by
      obtain ⟨p, hp, rfl⟩ := List.mem_map.mp hn
      exact b1 p hp
    simpa using this
  · rcases List.mem_cons.mp hm with q | hm
    · exact (live dd hdd).1 q
    · exact (live dd hdd).2.1 (List.mem_singleton.mp hm)
  · rcases List.mem_cons.mp hm with q | hm
    · exact (live l (hrf l hl)).1 q
    · exact (live l (hrf l hl)).2.1 (List.mem_singleton.mp hm)
  · generalize hLg : ({ s with heap := h1, toks := tk1 } : Shared).heap.objs.size = L at gg ha
    have hLg' : h1.objs.size = L := hLg
    refine wpAny_pyIter_gen gg.gen ?_
    have k02 : ∀ b o, s.heap.get? b = some o → h2.get? b = some o := fun b o e => k2 b o (k1 b o e)
    have mid0 : Mid prog w h₀ L L0 tl m [] { s with heap := h2, gens := s.gens.push gs, toks := tk2 } { s with heap := h2, gens := s.gens.push gs, toks := tk2 } :=
      ⟨sv2, ⟨m, hn1.keeps k2, fun _ _ => rfl⟩, ⟨[], htl1.at fun o e => k2 _ o e, .nil⟩, Stp.refl _ _⟩
    have st0 : Stp [16, L0, tl] s { s with heap := h2, gens := s.gens.push gs, toks := tk2 } := ⟨fun b o _ e => k02 b o e, fun h y hy => by
      rcases Array.mem_push.mp hy with q | q
      · exact h y q
      · rw [q]; exact hb2, rfl⟩
    have noL : s.heap.get? L = none ∧ s.heap.get? (L + 1) = none := ⟨get_none_of k1 (Nat.le_of_eq hLg'), get_none_of k1 (Nat.le_trans (Nat.le_of_eq hLg') (Nat.le_succ _))⟩
    have fin : ∀ {s'}, Stp (lawWd L L0 tl) { s with heap := h2, gens := s.gens.push gs, toks := tk2 } s' → Stp [16, L0, tl] s s' := fun {s'} st => by
      refine ⟨fun b o hb e => st.heap b o (fun hm => ?_) (k02 b o e), fun h => st.bare (st0.bare h), st.os⟩
      rcases List.mem_cons.mp hm with q | hm
      · exact hb (q ▸ .head _)
      · rcases List.mem_cons.mp hm with q | hm
        · rw [q, noL.1] at e; cases e
        · rcases List.mem_cons.mp hm with q | hm
          · rw [q, noL.2] at e; cases e
          · rcases List.mem_cons.mp hm with q | hm
            · exact hb (q ▸ .tail _ (.head _))
            · exact hb ((List.mem_singleton.mp hm) ▸ .tail _ (.tail _ (.head _)))
    have strip : ∀ {h : Heap} {l : List (List Nat)}, LotsAt (lawWd L L0 tl) h tl l → LotsAt [] h tl l := fun {h l} x =>
      let ⟨ys, hp, r⟩ := x; ⟨ys, hp, r.mono fun _ _ ⟨T, ss, e, _, r⟩ => ⟨T, ss, e, by simp, r⟩⟩
    refine lawLoop (s := { s with heap := h2, gens := s.gens.push gs, toks := tk2 }) hh (by omega) hf hm ⟨hne.2.1, hLg' ▸ htl1s, hne.2.2⟩ gg mid0 hnew hlots hll (fun s' hrf' mid => ?_) (fun s₁ s' e base a0 hrt mid hbs hup hheld hgn hos => ?_)
    · obtain ⟨m', hn', hm'⟩ := mid.ns
      refine wpAny_execs_nil (wpAny_execs_nil (hQ s' m' hn' (fun x hx _ => hm' x hx) (by rw [hm' _ (by decide), hmr, hrf']) (strip mid.lots) mid.sv (fin mid.stp)))
    · refine cameBack rfl hheld fun h3 hh3 u3 => ?_
      refine wpAny_noteFrame_againW (s := { s' with heap := h3 }) rfl hh3.2.2.2 ?_
      refine wpAny_landsW (s := { s' with heap := h3 }) hh3 fun h4 hf4 u4 => ?_
      have sv4 : Sv h₀ h4 := mid.sv.off [L, L0] (fun b hb => by
        rcases List.mem_cons.mp hb with q | hb
        · rw [q]; exact (sv.keeps k1).none (Nat.le_of_eq hLg')
        · rw [List.mem_singleton.mp hb]; exact hnew.1) fun b o hb e => hf4.1 _ _ (hbs b o (fun q => hb (q ▸ .head _)) (fun q => hb (q ▸ .tail _ (.head _))) e)
      refine wpAny_handleBy_builtin ve_base ve_meta ve_self (nmB (s := { s' with heap := h4 }) sv4.gn.glo (fun _ _ k => ⟨k.ve0, k.ve1⟩) ⟨rfl, hf4.there, ?_⟩)
      rw [if_pos rfl]
      refine lands_againW (s := { s' with heap := h4 }) hf4 fun h5 hf5 u5 => ?_
      obtain ⟨m', hn', hm'⟩ := mid.ns
      have hn5 : h5.Ns L0 m' := (hup.trans (u3.trans (u4.trans u5))).ns hn'
      have k5 : ∀ b o, b ≠ L → b ≠ L0 → s₁.heap.get? b = some o → h5.get? b = some o := fun b o q1 q2 e => hf5.1 _ _ (hbs b o q1 q2 e)
      refine wpAny_execs_cons (wpAny_Assign_Name (wpAny_Constant_bool (wpAny_storeName_local (s := { s' with heap := h5 }) (by rfl) hn5 (fun h6 hn6 hs6 => wpAny_execs_nil ?_) (by rfl))))
      have k6 : ∀ b o, b ≠ L → b ≠ L0 → s₁.heap.get? b = some o → h6.get? b = some o := fun b o q1 q2 e => (hs6.2 b q2).trans (k5 b o q1 q2 e)
      have htL : tl ≠ L := Nat.ne_of_lt (hLg' ▸ htl1s)
      have k6' : ∀ b o, b ∉ lawWd L L0 tl → s₁.heap.get? b = some o → h6.get? b = some o := fun b o hb e => k6 b o (fun q => hb (q ▸ .tail _ (.head _))) (fun q => hb (q ▸ .tail _ (.tail _ (.tail _ (.head _))))) e
      refine hQ _ _ hn6 (fun x hx hx2 => by rw [if_neg hx2]; exact hm' x hx) (by rw [if_pos rfl, hrt]) (strip (mid.lots.off k6' fun o e => k6 tl o htL hne.2.2 e)) (mid.sv.off [L, L0] (fun b hb => ?_) fun b o hb e => k6 b o (fun q => hb (q ▸ .head _)) (fun q => hb (q ▸ .tail _ (.head _))) e) (fin ⟨fun b o hb e => k6' b o hb (mid.stp.heap b o hb e), fun h => ?_, ?_⟩)
      · rcases List.mem_cons.mp hb with q | hb
        · rw [q]; exact (sv.keeps k1).none (Nat.le_of_eq hLg')
        · rw [List.mem_singleton.mp hb]; exact hnew.1
      · show ∀ x ∈ s'.gens, x.bare = true
        rw [hgn]; exact mid.stp.bare h
      · exact hos.trans mid.stp.os
end
end Mine
namespace Mine
open PySem PySem.W PyProof.Rows PySem.Calls

section
variable {prog : Program} {w : World} {A : Around} {E : Value → Shared → Prop} {s : Shared} {env : Env}

/-- a list comprehension over the keys of a dict, by a test -/
theorem compKeys {x : Str} {px pe : Pos} {iter c : Expr} {scope : Scope} {cl : List (Str × Addr)} {pos : Pos} {Q : Value → Shared → Prop} (p : Str → Bool)
    (hh : A.handled = none) (hclos : closureFor scope env = pure cl) (hcell : ∀ y ∈ scope.names, y.2 ≠ .cell) (hkind : scope.kind = .function)
    (hnames : ∀ y ∈ scope.names, y.2 = .local → scope.names.lookup y.1 = some .local) (hx : scope.names.lookup x = some .local) (hd : (x == ("__debug__" : Str)) = false)
    (h : wpAny (model prog w) A (eval iter env) (fun xv s₁ => ∃ d kvs, xv = .ref d ∧ (d == sysModules) = false ∧ s₁.heap.DictOf (strKind prog w) d kvs ∧ kvs.length ≤ 100 ∧
      (∀ C k v t s₃ m₃ E', (k, v) ∈ kvs → s₃.heap.Ns C m₃ → m₃ x = some (.str k t) → (∀ b o, s₁.heap.get? b = some o → s₃.heap.get? b = some o) →
        wpAny (model prog w) A (isTrue c (compEnvC scope cl C env) (eval c (compEnvC scope cl C env))) (fun ok s₄ => ok = p k ∧ Keeps s₃ s₄) E' s₃) ∧
      (∀ D h' tk, s₁.heap.get? D = none → LStr h' D ((kvs.map (·.1)).filter p) → (∀ b o, s₁.heap.get? b = some o → h'.get? b = some o) → Q (.ref D) { s₁ with heap := h', toks := tk })) E s)
    (hs : ∀ x, foldedSetIterable iter env x = pure x := by intro _; rfl) :
    wpAny (model prog w) A (eval (.ListComp (.Name x pe) [⟨.Name x px, iter, [c], 0⟩] scope pos) env) Q E s := by
  refine wpAny_ListComp_free (onStr p) (fun v y => y = v) hclos hcell hkind hnames hx (wpAny_mono h (fun xv s₁ h₁ => ?_) fun _ _ e => e) hs
  obtain ⟨d, kvs, rfl, lo, hD, hlen, ht, hQ⟩ := h₁
  obtain ⟨ep, hat⟩ := hD.dictAt
  have hlt := dict_lt hD
  refine wpAny_pyIter_dict lo hat ?_
  have kI : ∀ b o, s₁.heap.get? b = some o → (s₁.heap.push { cls := .type "dict_keyiterator", data := .fields #[.ref d, .int 0 0, .int kvs.length 0, .int ep 0] }).get? b = some o := fun b o e => Heap.get?_push_of_some _ e
  have up : ∀ (h₃ : Heap), (∀ b o, b ∉ [s₁.heap.objs.size] → (s₁.heap.push { cls := .type "dict_keyiterator", data := .fields #[.ref d, .int 0 0, .int kvs.length 0, .int ep 0] }).get? b = some o → h₃.get? b = some o) → ∀ b o, s₁.heap.get? b = some o → h₃.get? b = some o :=
    fun s₃ hk b o e => hk b o (fun hm => Nat.ne_of_lt (Heap.lt_size e) (List.mem_singleton.mp hm)) (kI b o e)
  refine ⟨s₁.heap.objs.size, _, _, kvs.length, _, _, rfl, Walks.dictKeys hh _ d (Nat.ne_of_lt hlt) kvs ep, Nat.le_trans hlen (by decide), ⟨⟨_, Heap.get?_push_size _ rfl, rfl, rfl⟩, hat.push _⟩, ?_, ⟨?_, ?_⟩, ?_⟩
  · intro b hb
    show b < (s₁.heap.push _).objs.size
    rw [Heap.size_push]
    rcases List.mem_cons.mp hb with q | hb
    · rw [q]; exact Nat.lt_succ_self _
    · rw [List.mem_singleton.mp hb]; exact Nat.lt_succ_of_lt hlt
  · intro C i v s₃ m₃ E' _ hP hns hm hk _
    obtain ⟨k, x', ek, hkk⟩ := hP
    obtain ⟨t, rfl⟩ := strKind_isStr hkk
    exact wpAny_tests_one (ht C k x' t s₃ m₃ E' (List.mem_of_getElem? ek) hns hm (up _ hk))
  · intro C i v s₃ m₃ E' _ hP _ hns hm _ _
    exact wpAny_Name (wpAny_loadName_local (by simp [compEnvC, relabel, hkind]) (lookup_relabel_local hx) hns hm ⟨rfl, s₃.heap, s₃.toks, rfl, fun _ _ e => e⟩) hd
  · intro D h' tk ys vs hnew _ hpl hlen' hP hF hk
    have hsa : StrsAre vs (kvs.map (·.1)) := by
      have := keys_strs (prog := prog) (w := w) (kvs := kvs) (acc := vs) (i := 0) (by rw [hlen']; rfl) (fun j v e => hP j v e)
      simpa using this
    have hys := Paired.eq hF
    obtain ⟨c, hp⟩ := hpl
    refine hQ D h' tk ?_ ⟨vs.filter (onStr p), ⟨c, by rw [← hys, Array.toArray_toList]; exact hp⟩, strsAre_filter p hsa⟩ (up _ hk)
    cases e : s₁.heap.get? D with
    | none => rfl
    | some o' => rw [kI _ _ e] at hnew; cases hnew
end

theorem fAt_of_mem {f : List (Nat × Nat)} (hn : (f.map (·.1)).Nodup) {n d : Nat} (h : (n, d) ∈ f) : fAt f n = some d := by
  induction f with
  | nil => cases h
  | cons p r ih =>
    obtain ⟨h1, h2⟩ := List.nodup_cons.mp hn
    rcases List.mem_cons.mp h with q | q
    · subst q; simp [fAt]
    · have hne : ¬ p.1 = n := fun e => h1 (List.mem_map.mpr ⟨(n, d), q, e.symm⟩)
      have := ih h2 q
      simpa [fAt, hne] using this

def atDepth (kvs : List (Str × Value)) (r : Nat) (k : Str) : Bool := match valueAt kvs k with
  | some (.int z _) => z == (r : Int)
  | _ => false
theorem FRel.keys : ∀ {kvs f}, FRel kvs f → kvs.map (·.1) = f.map fun p => nm p.1
  | _, _, .nil => rfl
  | _, _, .cons h => by simp [h.keys]
theorem atDepth_filter {kvs : List (Str × Value)} {f : List (Nat × Nat)} (hr : FRel kvs f) (hn : (f.map (·.1)).Nodup) (hb : ∀ p ∈ f, p.1 < 7) (r : Nat) :
    (kvs.map (·.1)).filter (atDepth kvs r) = ((f.filter fun p => p.2 == r).map (·.1)).map nm := by
  rw [hr.keys, List.filter_map, List.map_map]
  have : (f.filter ((atDepth kvs r) ∘ fun p => nm p.1)) = f.filter fun p => p.2 == r := by
    refine List.filter_congr fun p hp => ?_
    have h1 := fAt_of_mem hn (n := p.1) (d := p.2) hp
    rcases hr.at (hb p hp) hb with ⟨q, _⟩ | ⟨d, t, q1, q2⟩
    · rw [h1] at q; cases q
    · rw [h1] at q1; cases q1
      show atDepth kvs r (nm p.1) = _
      unfold atDepth
      rw [q2]
      simp only
      rw [Bool.eq_iff_iff, beq_iff_eq, beq_iff_eq]
      omega
  rw [this]; rfl
theorem depth_perm {D : List (Nat × List Nat)} (x : Deps D) (r : Nat) : (((depthsOf D).filter fun p => p.2 == r).map (·.1)).Perm (lotAt D r) := by
  have hF := FOk.rounds (ns := namesOf D) (D := D) (namesOf D).length
  have hn : ((depthsOf D).map (·.1)).Nodup := hF.1
  refine (List.perm_ext_iff_of_nodup ?_ ?_).mpr fun n => ?_
  · exact List.Nodup.sublist (List.Sublist.map _ List.filter_sublist) hn
  · unfold lotAt; exact List.nodup_range.filter _
  · rw [mem_lotAt x, List.mem_map]
    constructor
    · rintro ⟨p, hp, rfl⟩
      obtain ⟨h1, h2⟩ := List.mem_filter.mp hp
      have := fAt_of_mem hn (n := p.1) (d := p.2) h1
      rw [eq_of_beq h2] at this
      exact this
    · intro h
      unfold dl at h
      unfold fAt at h
      rw [Option.map_eq_some_iff] at h
      obtain ⟨p, hp, e⟩ := h
      have h1 := List.mem_of_find?_eq_some hp
      have h2 := List.find?_some hp
      exact ⟨p, List.mem_filter.mpr ⟨h1, by rw [e]; exact beq_self_eq_true _⟩, by simpa using h2⟩
end Mine
namespace Mine
open PySem PySem.W PyProof.Rows PySem.Calls

theorem LotAt.mono {Wd Wd' : List Addr} {h : Heap} {y : Value} {X : List Nat} (x : LotAt Wd h y X) (hs : ∀ b ∈ Wd', b ∈ Wd) : LotAt Wd' h y X :=
  let ⟨T, ss, e, hT, r⟩ := x; ⟨T, ss, e, fun hm => hT (hs _ hm), r⟩
theorem LotsAt.mono {Wd Wd' : List Addr} {h : Heap} {l : Addr} {ls : List (List Nat)} (x : LotsAt Wd h l ls) (hs : ∀ b ∈ Wd', b ∈ Wd) : LotsAt Wd' h l ls :=
  let ⟨ys, hp, r⟩ := x; ⟨ys, hp, r.mono fun _ _ q => q.mono hs⟩

section
variable {prog : Program} {w : World} {A : Around} {E : Value → Shared → Prop} {s : Shared} {h₀ : Heap} {L0 fd du : Addr} {m : Str → Option Value} {D : List (Nat × List Nat)} {kvs : List (Str × Value)} {ls : List (List Nat)} {Wd : List Addr}

theorem ldN {x : Str} {pos : Pos} {v : Value} {Q : Value → Shared → Prop} (hn : s.heap.Ns L0 m) (hv : m x = some v) (h : Q v s)
    (hl : (eLaw L0).kindOf x = some .local := by rfl) (hd : (x == ("__debug__" : Str)) = false := by decide) : wpAny (model prog w) A (eval (.Name x pos) (eLaw L0)) Q E s :=
  wpAny_Name (wpAny_loadName_local (by rfl) hl hn hv h) hd

/-- one turn of the loop over the depths -/
theorem dueTurn {r : Nat} {tr : Tok} {Q : Flow → Shared → Prop} (hh : A.handled = none) (G : Glo s.heap) (hDp : Deps D)
    (hn : s.heap.Ns L0 m) (hm : m "due" = some (.ref du)) (hc2 : s.heap.IsCell (L0 + 2) (some (.ref fd))) (hc3 : s.heap.IsCell (L0 + 3) (some (.int (r : Int) tr)))
    (lo : (fd == sysModules) = false) (hD : s.heap.DictOf (strKind prog w) fd kvs) (hr : FRel kvs (depthsOf D)) (hdu : LotsAt Wd s.heap du ls) (hls : ls.length ≤ 50) (hlive : ∀ b ∈ Wd, ∃ o, s.heap.get? b = some o) (hLw : L0 ∈ Wd)
    (hQ : ∀ h' tk m' du', h'.Ns L0 m' → (∀ x : Str, x ≠ "due" → m' x = m x) → m' "due" = some (.ref du') → du' ∉ Wd → LotsAt Wd h' du' (ls ++ [lotAt D r]) → (∀ b o, b ≠ L0 → s.heap.get? b = some o → h'.get? b = some o) → Q .next { s with heap := h', toks := tk }) :
    wpAny (model prog w) A (execs (forB (lawSt 5)) (eLaw L0)) Q No s := by
  have hF := FOk.rounds (ns := namesOf D) (D := D) (namesOf D).length
  have hfn : ((depthsOf D).map (·.1)).Nodup := hF.1
  have hf7 : ∀ p ∈ depthsOf D, p.1 < 7 := fun p hp => hDp.lt _ (hF.2 p hp)
  have hfl : (depthsOf D).length ≤ 7 := hF.len hDp.lt
  obtain ⟨ys, hpl, hpr⟩ := id hdu
  have hyl : ys.length ≤ 50 := by rw [hpr.length]; exact hls
  refine wpAny_execs_cons (wpAny_Assign_Name (wpAny_BinOp (ldN hn hm ?_)))
  refine List_ (spliced_more (Call_ (nmB G (fun _ _ k => ⟨k.sorted0, k.sorted1⟩) (PyProof.Rows.callWith_builtin1 (spliced_more ?_)))))
  refine compKeys (atDepth kvs r) hh (by rfl) (by decide) (by rfl) (by decide) (by rfl) (by decide) (wpAny_Name (wpAny_loadName_cell (by rfl) (by rfl) (by rfl) hc2 ?_) (by decide))
  refine ⟨fd, kvs, rfl, lo, hD, by rw [hr.length]; omega, fun C k v t s₃ m₃ E' hkv hns hmx hk => ?_, fun l h1 tk1 _ hl k1 => ?_⟩
  · obtain ⟨i, hi⟩ := List.getElem?_of_mem hkv
    have hkn : (kvs.map (·.1)).Nodup := by
      rw [hr.keys, show ((depthsOf D).map fun p => nm p.1) = ((depthsOf D).map (·.1)).map nm by rw [List.map_map]; rfl]
      refine nodup_nm hfn fun j hj => ?_
      obtain ⟨p, hp, rfl⟩ := List.mem_map.mp hj
      exact hf7 p hp
    have hva : valueAt kvs k = some v := valueAt_of_get hkn hi
    have hvi : ∃ (z : Nat) (t' : Tok), v = .int (z : Int) t' := by
      have key : ∀ {kvs : List (Str × Value)} {f : List (Nat × Nat)}, FRel kvs f → ∀ q ∈ kvs, ∃ (z : Nat) (t' : Tok), q.2 = .int (z : Int) t' := by
        intro kvs f hr
        induction hr with
        | nil => intro q hq; cases hq
        | cons _ ih =>
          intro q hq
          rcases List.mem_cons.mp hq with e | hq
          · rw [e]; exact ⟨_, _, rfl⟩
          · exact ih q hq
      exact key hr _ hkv
    obtain ⟨z, t', rfl⟩ := hvi
    refine wpAny_isTrue_Compare1 (wpAny_Subscript_Name PySem.F.slot_dict_getitem.lookup (wpAny_Name (wpAny_loadName_cell (by rfl) (by rfl) (by rfl) (hc2.keeps hk)
      (wpAny_Name (wpAny_loadName_local (by rfl) (by rfl) hns hmx ⟨(hD.at fun o e => hk _ o e).typeIs, ?_⟩) (by decide))) (by decide)))
    refine wpAny_getItem_of (k := k) (strKind_is prog w _ _) (hD.at fun o e => hk _ o e).mapOf hva ?_
    refine wpAny_Name (wpAny_loadName_cell (c := L0 + 3) (by rfl) (by rfl) (by rfl) (hc3.keeps hk) (PyProof.Rows.eq_int (wpAny_truthy_bool ⟨?_, s₃.heap, _, rfl, fun _ _ e => e⟩))) (by decide)
    unfold atDepth
    rw [hva]
  · rw [atDepth_filter hr hfn hf7] at hl
    refine spliced_none (sortedList (s := { s with heap := h1, toks := tk1 }) hl ?_ fun T h2 ss hT hss hp hso k2 => ?_)
    · rw [List.length_map, List.length_map]
      have := List.length_filter_le (fun p : Nat × Nat => p.2 == r) (depthsOf D)
      omega
    refine spliced_none (newList_raw (s := { s with heap := h2, toks := tk1 }) (fun l2 h3 el2 hl2 k3 _ => ?_) (show 1 ≤ sizeLine by decide))
    have k03 : ∀ b o, s.heap.get? b = some o → h3.get? b = some o := fun b o e => k3 b o (k2 b o (k1 b o e))
    refine addLists (s := { s with heap := h3, toks := tk1 }) (vs := ys) (ws := [.ref T]) (hpl.at fun o e => k03 _ o e).isList hl2.isList (fun du' h4 edu hdu' k4 => ?_) (by simp only [List.length_cons, List.length_nil]; exact Nat.le_trans (Nat.add_le_add_right hyl _) (by decide))
    have k04 : ∀ b o, s.heap.get? b = some o → h4.get? b = some o := fun b o e => k4 b o (k03 b o e)
    have hn4 := hn.keeps k04
    refine wpAny_storeName_local (s := { s with heap := h4, toks := tk1 }) (by rfl) hn4 (fun h5 hn5 hs5 => wpAny_execs_nil ?_) (by rfl)
    have k45 : ∀ b o, b ≠ L0 → h4.get? b = some o → h5.get? b = some o := fun b o hb e => (hs5.2 b hb).trans e
    have fresh : ∀ b, s.heap.get? b = none → b ∉ Wd := fun b hb hm => by
      obtain ⟨o, ho⟩ := hlive b hm
      rw [hb] at ho; cases ho
    have hTn : s.heap.get? T = none := by
      cases e : s.heap.get? T with
      | none => rfl
      | some o => have := k1 _ _ e; rw [hT] at this; cases this
    have hdn : s.heap.get? du' = none := get_none_of k03 (Nat.le_of_eq edu.symm)
    have hduL : du' ≠ L0 := fun q => fresh du' hdn (q ▸ hLw)
    have hTL : T ≠ L0 := fun q => fresh T hTn (q ▸ hLw)
    refine hQ h5 _ _ du' hn5 (fun x hx => if_neg hx) (if_pos rfl) (fresh du' hdn) ⟨ys ++ [.ref T], hdu'.at fun o e => k45 _ o hduL e, ?_⟩ fun b o hb e => k45 b o hb (k04 b o e)
    refine (hpr.mono fun _ _ q => q.off fun b o hb e => k45 b o (fun z => hb (z ▸ hLw)) (k04 b o e)).snoc ?_
    exact ⟨T, ss, rfl, fresh T hTn, hss.at fun o e => k45 _ o hTL (k4 _ o (k3 _ o e)), hp.trans (List.Perm.map nm (depth_perm hDp r)), hso⟩
end
end Mine
namespace Mine
open PySem PySem.W PyProof.Rows PySem.Calls

section
variable {prog : Program} {w : World} {A : Around} {E : Value → Shared → Prop} {s : Shared} {h₀ : Heap} {L0 fd du : Addr} {m : Str → Option Value} {D : List (Nat × List Nat)} {kvs : List (Str × Value)}

theorem law5 {M : Nat} {tM : Tok} {v3 : Option Value} {Q : Flow → Shared → Prop} (hh : A.handled = none) (sv : Sv h₀ s.heap) (hDp : Deps D) (hnew : h₀.get? L0 = none ∧ h₀.get? (L0 + 3) = none)
    (hn : s.heap.Ns L0 m) (hm : m "due" = some (.ref du)) (hM : m "many" = some (.int (M : Int) tM)) (hM50 : M ≤ 50) (hc2 : s.heap.IsCell (L0 + 2) (some (.ref fd))) (hc3 : s.heap.IsCell (L0 + 3) v3)
    (lo : (fd == sysModules) = false) (hfL : fd ≠ L0) (hD : s.heap.DictOf (strKind prog w) fd kvs) (hr : FRel kvs (depthsOf D)) (hdu : s.heap.PlainList du ([] : List Value).toArray)
    (hQ : ∀ h' tk m' du', h'.Ns L0 m' → (∀ x : Str, x ≠ "due" → m' x = m x) → m' "due" = some (.ref du') → LotsAt [] h' du' ((List.range M).map (lotAt D)) → (∀ b o, b ∉ [L0, L0 + 3] → s.heap.get? b = some o → h'.get? b = some o) → Q .next { s with heap := h', toks := tk }) :
    wpAny (model prog w) A (exec (lawSt 5) (eLaw L0)) Q No s := by
  refine wpAny_For (rangeIter (n := M) hh sv.gn.glo (by omega) (fun h => ldN hn hM (h _ _)) (by rfl) (fun I h1 tk1 hI k1 W st0 => ?_))
  have hL0s : L0 < s.heap.objs.size := hn.lt
  have hcs : L0 + 3 < s.heap.objs.size := hc3.lt
  have hIL : L0 ≠ I := Nat.ne_of_lt (Nat.lt_of_lt_of_le hL0s hI)
  have hIc : L0 + 3 ≠ I := Nat.ne_of_lt (Nat.lt_of_lt_of_le hcs hI)
  have hIf : fd ≠ I := Nat.ne_of_lt (Nat.lt_of_lt_of_le (dict_lt hD) hI)
  have hIc2 : L0 + 2 ≠ I := Nat.ne_of_lt (Nat.lt_of_lt_of_le hc2.lt hI)
  have hLc : L0 ≠ L0 + 3 := Nat.ne_of_lt (Nat.lt_add_of_pos_right (by decide))
  have hc23 : L0 + 2 ≠ L0 + 3 := Nat.ne_of_lt (Nat.lt_succ_self _)
  have hL2 : L0 + 2 ≠ L0 := Nat.ne_of_gt (Nat.lt_add_of_pos_right (by decide))
  have hfc : fd ≠ L0 + 3 := fun q => by
    obtain ⟨o, ho, hd⟩ := hc3
    obtain ⟨o', es', ep', ho', hc', hd', _⟩ := hD
    rw [q, ho] at ho'; cases ho'
    rw [hd] at hd'; cases hd'
  have hdL : du ≠ L0 := fun q => by
    obtain ⟨o, es, ep, ho, hd, _⟩ := hn
    obtain ⟨_, ho'⟩ := hdu
    rw [q, ho] at ho'; cases ho'; cases hd
  have hdc : du ≠ L0 + 3 := fun q => by
    obtain ⟨o, ho, hd⟩ := hc3
    obtain ⟨_, ho'⟩ := hdu
    rw [q, ho] at ho'; cases ho'; cases hd
  have hdI : du ≠ I := fun q => by
    obtain ⟨_, ho'⟩ := hdu
    exact Nat.lt_irrefl _ (Nat.lt_of_lt_of_le (q ▸ Heap.lt_size ho') hI)
  have keepW : ∀ b, b ∉ [L0, L0 + 3] → ∀ o, s.heap.get? b = some o → b ∉ [L0, L0 + 3, I] := fun b hb o e hm => by
    rcases List.mem_cons.mp hm with q | hm
    · exact hb (q ▸ .head _)
    · rcases List.mem_cons.mp hm with q | hm
      · exact hb (q ▸ .tail _ (.head _))
      · have := Heap.lt_size e
        rw [List.mem_singleton.mp hm] at this
        exact Nat.lt_irrefl _ (Nat.lt_of_lt_of_le this hI)
  refine codeAny_forLoop
    (fun k s' => ∃ h' tk m' du' v3' i, s' = { s with heap := h', toks := tk } ∧ IsRangeIter h' I (0 + (i : Nat) * 1) ((M : Int) - (i : Nat)) 1 ∧ h'.Ns L0 m' ∧ (∀ x : Str, x ≠ "due" → m' x = m x) ∧ m' "due" = some (.ref du') ∧ du' ∉ [L0, L0 + 3, I] ∧
      LotsAt [L0, L0 + 3, I] h' du' ((List.range i).map (lotAt D)) ∧ h'.IsCell (L0 + 3) v3' ∧ (∀ b o, b ∉ [L0, L0 + 3, I] → s.heap.get? b = some o → h'.get? b = some o) ∧ i ≤ M ∧ k = M + 1 - i) ?_ (M + 1)
    ⟨h1, tk1, m, du, v3, 0, rfl, st0, hn.keeps k1, fun _ _ => rfl, hm, ?_, ⟨[], hdu.at fun o e => k1 _ o e, .nil⟩, let ⟨o, e, r⟩ := hc3; ⟨o, k1 _ _ e, r⟩, fun b o _ e => k1 b o e, Nat.zero_le _, rfl⟩
  · rintro k s' ⟨h2, tk2, m2, du2, v32, i, rfl, st2, hn2, hm2, hdu2, hdW, hl2, hc2', k2, hi, rfl⟩
    have off2 : ∀ b o, b ≠ L0 → b ≠ L0 + 3 → s.heap.get? b = some o → h2.get? b = some o := fun b o q1 q2 e => k2 b o (keepW b (fun hm => by
      rcases List.mem_cons.mp hm with q | hm
      · exact q1 q
      · exact q2 (List.mem_singleton.mp hm)) o e) e
    by_cases hlt : i < M
    · refine W.item i _ _ _ hlt st2 fun v h3 tk3 hP st3 k3 => ?_
      obtain ⟨ti, rfl⟩ := hP
      have k3' : ∀ b o, b ≠ I → h2.get? b = some o → h3.get? b = some o := fun b o hb e => k3 b o (by simpa using hb) e
      have hc3' : h3.IsCell (L0 + 3) v32 := let ⟨o, e, r⟩ := hc2'; ⟨o, k3' _ _ hIc e, r⟩
      refine wpAny_assign_Name (wpAny_storeName_cell (s := { s with heap := h3, toks := tk3 }) (c := L0 + 3) (by rfl) (by rfl) (by rfl) hc3' fun h4 hv4 hs4 => ?_)
      have k34 : ∀ b o, b ≠ L0 + 3 → h3.get? b = some o → h4.get? b = some o := fun b o hb e => (hs4.2 b hb).trans e
      have k24 : ∀ b o, b ∉ [L0, L0 + 3, I] → h2.get? b = some o → h4.get? b = some o := fun b o hb e => k34 b o (fun q => hb (q ▸ .tail _ (.head _))) (k3' b o (fun q => hb (q ▸ .tail _ (.tail _ (.head _)))) e)
      have hn4 : h4.Ns L0 m2 := hn2.at' fun o e => k34 _ o hLc (k3' _ o hIL e)
      have offs : ∀ b o, b ≠ L0 → b ≠ L0 + 3 → b ≠ I → s.heap.get? b = some o → h4.get? b = some o := fun b o q1 q2 q3 e => k34 b o q2 (k3' b o q3 (off2 b o q1 q2 e))
      have sv4 : Sv h₀ h4 := sv.off [L0, L0 + 3] (fun b hb => by
        rcases List.mem_cons.mp hb with q | hb
        · rw [q]; exact hnew.1
        · rw [List.mem_singleton.mp hb]; exact hnew.2) fun b o hb e => k24 b o (keepW b hb o e) (k2 b o (keepW b hb o e) e)
      have st4 := W.frame _ _ h4 st3 fun b hb o e => k34 b o (fun q => hIc (q.symm.trans (List.mem_singleton.mp hb))) e
      have live : ∀ b ∈ [L0, L0 + 3, I], ∃ o, h4.get? b = some o := fun b hb => by
        rcases List.mem_cons.mp hb with q | hb
        · obtain ⟨o, _, _, ho, _⟩ := hn4; exact ⟨o, q ▸ ho⟩
        · rcases List.mem_cons.mp hb with q | hb
          · obtain ⟨o, ho, _⟩ := hv4; exact ⟨o, q ▸ ho⟩
          · exact ⟨_, (List.mem_singleton.mp hb) ▸ st4⟩
      have hl4 : LotsAt [L0, L0 + 3, I] h4 du2 ((List.range i).map (lotAt D)) := hl2.off k24 fun o e => k24 _ o hdW e
      refine dueTurn (s := { s with heap := h4, toks := tk3 }) (Wd := [L0, L0 + 3, I]) (m := m2) hh sv4.gn.glo hDp hn4 hdu2 (let ⟨o, e, r⟩ := hc2; ⟨o, offs _ _ hL2 hc23 hIc2 e, r⟩) hv4 lo (hD.at fun o e => offs _ o hfL hfc hIf e) hr hl4 ?_ live (.head _) (fun h5 tk5 m5 du5 hn5 hm5 hd5 hdW5 hl5 k5 => ?_) |> fun h => wpAny_mono h (fun _ _ q => q) fun _ _ f => f.elim
      · rw [List.length_map, List.length_range]; omega
      · refine ⟨M + 1 - (i + 1), by omega, h5, tk5, m5, du5, _, i + 1, rfl, ?_, hn5, fun x hx => (hm5 x hx).trans (hm2 x hx), hd5, hdW5, ?_, let ⟨o, e, r⟩ := hv4; ⟨o, k5 _ _ (Ne.symm hLc) e, r⟩, fun b o hb e => k5 b o (fun q => hb (q ▸ .head _)) (k24 b o hb (k2 b o hb e)), hlt, rfl⟩
        · exact W.frame _ _ h5 st4 fun b hb o e => k5 b o (fun q => hIL (q.symm.trans (List.mem_singleton.mp hb))) e
        · rw [List.range_succ, List.map_append]; exact hl5
    · have hin : i = M := by omega
      subst hin
      refine W.done _ _ _ st2 fun h3 tk3 k3 => wpAny_execs_nil ?_
      have k3' : ∀ b o, b ≠ I → h2.get? b = some o → h3.get? b = some o := fun b o hb e => k3 b o (by simpa using hb) e
      refine hQ h3 tk3 m2 du2 (hn2.at' fun o e => k3' _ o hIL e) hm2 hdu2 ((hl2.off (fun b o hb e => k3' b o (fun q => hb (q ▸ .tail _ (.tail _ (.head _)))) e) fun o e => k3' _ o (fun q => hdW (q ▸ .tail _ (.tail _ (.head _)))) e).mono fun b hb => by cases hb) fun b o hb e => ?_
      have hb' := keepW b hb o e
      exact k3' b o (fun q => hb' (q ▸ .tail _ (.tail _ (.head _)))) (k2 b o hb' e)
  · intro hm
    rcases List.mem_cons.mp hm with q | hm
    · exact hdL q
    · rcases List.mem_cons.mp hm with q | hm
      · exact hdc q
      · exact hdI (List.mem_singleton.mp hm)
end
end Mine
namespace Mine
open PySem PySem.W PyProof.Rows PySem.Calls

def leS (a b : Str) : Prop := a.cps.toList ≤ b.cps.toList
theorem leS_of {a b : Str} (h : (!Spec.ltCps b.cps.toList a.cps.toList) = true) : leS a b := by
  rw [ltCps_eq, Bool.not_eq_true', decide_eq_false_iff_not] at h
  exact h
theorem leS.trans {a b c : Str} (h1 : leS a b) (h2 : leS b c) : leS a c := List.le_trans h1 h2
theorem leS.anti {a b : Str} (h1 : leS a b) (h2 : leS b a) : a = b := by
  have e : a.cps.toList = b.cps.toList := List.le_antisymm h1 h2
  obtain ⟨⟨x⟩⟩ := a
  obtain ⟨⟨y⟩⟩ := b
  simp only at e
  rw [e]
theorem pairwise_rising : ∀ (l : List Str) (p : Str), risingS p l = true → (p :: l).Pairwise leS
  | [], p, _ => by simp
  | x :: r, p, h => by
    unfold risingS at h
    obtain ⟨h1, h2⟩ := Bool.and_eq_true_iff.mp h
    have ih := pairwise_rising r x h2
    have hpx : leS p x := leS_of h1
    refine List.pairwise_cons.mpr ⟨fun y hy => ?_, ih⟩
    rcases List.mem_cons.mp hy with rfl | hy
    · exact hpx
    · exact hpx.trans ((List.pairwise_cons.mp ih).1 y hy)
theorem pairwise_sorted : ∀ {l : List Str}, sortedS l = true → l.Pairwise leS
  | [], _ => .nil
  | x :: r, h => pairwise_rising r x h
theorem sorted_unique {a b : List Str} (h : a.Perm b) (ha : sortedS a = true) (hb : sortedS b = true) : a = b :=
  List.Perm.eq_of_pairwise (le := leS) (fun _ _ _ _ h1 h2 => leS.anti h1 h2) (pairwise_sorted ha) (pairwise_sorted hb) h

theorem strsAre_inj : ∀ {vs : List Value} {a b : List Str}, StrsAre vs a → StrsAre vs b → a = b
  | _, _, _, .nil, .nil => rfl
  | _, _, _, .cons _ _ r, .cons _ _ r' => by rw [strsAre_inj r r']
theorem LStr.inj {h : Heap} {l : Addr} {a b : List Str} (x : LStr h l a) (y : LStr h l b) : a = b := by
  obtain ⟨vs, ⟨c, e⟩, s1⟩ := x
  obtain ⟨us, ⟨c', e'⟩, s2⟩ := y
  rw [e] at e'
  injection e' with e'
  injection e' with _ _ e' _
  injection e' with e' _
  have : vs = us := by simpa using e'
  subst this
  exact strsAre_inj s1 s2

theorem lotsData {h : Heap} : ∀ {ys : List Value} {lots : List (List Nat)}, Paired (LotAt [] h) ys lots →
    ∃ (sss : List (List Str)) (as : List Addr), ReadsAll h ys (sss.map fun ss => PyData.list (ss.map PyData.str)) as ∧ Paired (fun (ss : List Str) (X : List Nat) => ss.Perm (X.map nm) ∧ sortedS ss = true) sss lots
  | [], [], .nil => ⟨[], [], .nil, .nil⟩
  | _ :: _, _ :: _, .cons ⟨T, ss, e, _, ⟨vs, hl, hs⟩, hp, hso⟩ r => by
    obtain ⟨sss, as, h1, h2⟩ := lotsData r
    subst e
    exact ⟨ss :: sss, _, .cons (reads_strs hl hs) h1, .cons ⟨hp, hso⟩ h2⟩
theorem lots_unique {a b : List (List Str)} {lots : List (List Nat)} (x : Paired (fun (ss : List Str) (X : List Nat) => ss.Perm (X.map nm) ∧ sortedS ss = true) a lots)
    (y : Paired (fun (ss : List Str) (X : List Nat) => ss.Perm (X.map nm) ∧ sortedS ss = true) b lots) : a = b := by
  induction x generalizing b with
  | nil => cases y; rfl
  | cons h1 _ ih =>
    cases y with
    | cons h2 r2 => rw [ih r2, sorted_unique (h1.1.trans h2.1.symm) h1.2 h2.2]
theorem lots_ok : ∀ {a : List (List Str)} {lots : List (List Nat)}, Paired (fun (ss : List Str) (X : List Nat) => ss.Perm (X.map nm) ∧ sortedS ss = true) a lots → (∀ X ∈ lots, ∀ n ∈ X, n < 7) → ∀ ss ∈ a, ∀ x ∈ ss, IsN x
  | _, _, .nil, _, ss, hs, _, _ => by cases hs
  | _, _, .cons (a := s1) (b := X) h r, hX, ss, hs, x, hx => by
    rcases List.mem_cons.mp hs with q | q
    · subst q
      obtain ⟨n, hn, rfl⟩ := List.mem_map.mp (h.1.mem_iff.mp hx)
      exact ⟨n, hX X (.head _) n hn, rfl⟩
    · exact lots_ok r (fun X hX' => hX X (.tail _ hX')) ss q x hx
theorem canLay_lists : ∀ (sss : List (List Str)), (∀ ss ∈ sss, ∀ x ∈ ss, IsN x) → PyData.canLayAll0 (sss.map fun ss => PyData.list (ss.map PyData.str)) = true
  | [], _ => by simp [PyData.canLayAll0]
  | ss :: r, h => by
    have h1 := canLay_lists r fun s hs => h s (.tail _ hs)
    have h2 := canLayAll0_strs ss fun x hx => (h ss (.head _) x hx).ok
    simp [PyData.canLayAll0, PyData.canLay0, h1, h2]
theorem depth_lists : ∀ (sss : List (List Str)), PyData.depthAll (sss.map fun ss => PyData.list (ss.map PyData.str)) ≤ 1
  | [] => by simp [PyData.depthAll]
  | ss :: r => by
    have := depth_lists r
    simp only [List.map_cons, PyData.depthAll, PyData.depth, depthAll_strs]
    omega
theorem shaped_lists (sss : List (List Str)) (h : ∀ ss ∈ sss, ∀ x ∈ ss, IsN x) : PySem.SeqAt.shaped (.list (sss.map fun ss => PyData.list (ss.map PyData.str))) = true := by
  have h1 := canLay_lists sss h
  have h2 := depth_lists sss
  have h3 : (PyData.list (sss.map fun ss => PyData.list (ss.map PyData.str))).depth ≤ 64 := by
    simp only [PyData.depth]
    omega
  have h4 : (PyData.list (sss.map fun ss => PyData.list (ss.map PyData.str))).canLay0 = true := by
    simp only [PyData.canLay0]; exact h1
  unfold PySem.SeqAt.shaped
  rw [h4, decide_eq_true h3]; rfl

section
variable {prog : Program} {w : World} {A : Around} {E : Value → Shared → Prop} {s : Shared} {a b : Addr} {lots : List (List Nat)}

/-- two lists of the same lots are equal -/
theorem eqLots {Q : Value → Shared → Prop} (ha : LotsAt [] s.heap a lots) (hb : LotsAt [] s.heap b lots) (hX : ∀ X ∈ lots, ∀ n ∈ X, n < 7) (hu : A.units + 64 < cLine) (h : Q (.bool true) s) :
    wpAny (model prog w) A (compareOp .Eq (.ref a) (.ref b)) Q E s := by
  obtain ⟨ys, ⟨c, hp⟩, hr⟩ := ha
  obtain ⟨zs, ⟨c', hq⟩, ht⟩ := hb
  obtain ⟨sa, as, h1, h2⟩ := lotsData hr
  obtain ⟨sb, bs, h3, h4⟩ := lotsData ht
  have := lots_unique h2 h4
  subst this
  have hs := shaped_lists sa (lots_ok h2 hX)
  refine eq_dataH_same (Reads.list hp rfl rfl (by simpa using h1)) (Reads.list hq rfl rfl (by simpa using h3)) hs hs hu (PySem.SeqAt.noMix_of_shape (.list (.list .str)) rfl _ _ (list_map_has fun _ => list_map_has fun _ => rfl) (list_map_has fun _ => list_map_has fun _ => rfl)) ?_
  rw [same_refl]; exact h
end
end Mine
namespace Mine
open PySem PySem.W PyProof.Rows PySem.Calls

open Classical in
noncomputable def fullAt (h : Heap) (v : Value) : Bool := decide (∃ T ss, v = .ref T ∧ LStr h T ss ∧ ss ≠ [])
open Classical in
theorem fullAt_ref {h : Heap} {T : Addr} {ss : List Str} (x : LStr h T ss) : fullAt h (.ref T) = !decide (ss = []) := by
  unfold fullAt
  by_cases e : ss = []
  · subst e
    rw [decide_eq_true rfl]
    refine decide_eq_false ?_
    rintro ⟨T', ss', e, y, z⟩
    injection e with e; subst e
    exact z (x.inj y).symm
  · rw [decide_eq_false e]
    exact decide_eq_true ⟨T, ss, rfl, x, e⟩
theorem lots_filter {h h' : Heap} (hk : ∀ l xs, LStr h l xs → LStr h' l xs) : ∀ {ys : List Value} {lots : List (List Nat)}, Paired (LotAt [] h) ys lots → Paired (LotAt [] h') (ys.filter (fullAt h)) (lots.filter fun X => !X.isEmpty)
  | _, _, .nil => .nil
  | _, _, .cons (b := X) hx r => by
    have ih := lots_filter hk r
    obtain ⟨T, ss, rfl, hT, hl, hp, hso⟩ := hx
    have hx' : LotAt [] h' (.ref T) X := ⟨T, ss, rfl, hT, hk T ss hl, hp, hso⟩
    have e1 : fullAt h (.ref T) = !X.isEmpty := by
      rw [fullAt_ref hl]
      cases X with
      | nil =>
        have : ss = [] := List.Perm.eq_nil hp
        simp [this]
      | cons n X =>
        have : ss ≠ [] := fun q => by
          rw [q] at hp
          have := hp.length_eq
          simp at this
        simp [this]
    cases q : !X.isEmpty with
    | true =>
      rw [List.filter_cons_of_pos (by rw [e1]; exact q), List.filter_cons_of_pos (by simpa using q)]
      exact .cons hx' ih
    | false =>
      rw [List.filter_cons_of_neg (by rw [e1, q]; decide), List.filter_cons_of_neg (by simpa using q)]
      exact ih

section
variable {prog : Program} {w : World} {A : Around} {E : Value → Shared → Prop} {s : Shared} {L0 du : Addr} {m : Str → Option Value} {lots : List (List Nat)}

theorem law6 {Q : Flow → Shared → Prop} (hh : A.handled = none) (hu : A.units + 64 < cLine) (hn : s.heap.Ns L0 m) (hm : m "due" = some (.ref du)) (hdu : LotsAt [] s.heap du lots) (hll : lots.length ≤ 100) (hX : ∀ X ∈ lots, ∀ n ∈ X, n < 7)
    (hQ : ∀ h' tk du', h'.Ns L0 (fun x => if x = "due" then some (.ref du') else m x) → LotsAt [] h' du' (lots.filter fun X => !X.isEmpty) → (∀ b o, b ≠ L0 → s.heap.get? b = some o → h'.get? b = some o) → Q .next { s with heap := h', toks := tk }) :
    wpAny (model prog w) A (exec (lawSt 6) (eLaw L0)) Q E s := by
  obtain ⟨ys, hpl, hpr⟩ := hdu
  have hyl : ys.length ≤ 100 := by rw [hpr.length]; exact hll
  have hl := hpl.isList
  have hlt : du < s.heap.objs.size := let ⟨_, ho⟩ := hpl; Heap.lt_size ho
  have hLs : L0 < s.heap.objs.size := hn.lt
  refine wpAny_Assign_ListComp_free (fullAt s.heap) (fun v y => y = v) (by rfl) (by rfl) (by decide) (by rfl) (by decide) (by rfl) (by rfl) (by rfl) (ldN hn hm (wpAny_pyIter_list hl ?_))
  have kI : ∀ b o, s.heap.get? b = some o → (s.heap.push { cls := .type "list_iterator", data := .fields #[.ref du, .int 0 0] }).get? b = some o := fun b o e => Heap.get?_push_of_some _ e
  have up : ∀ (h₃ : Heap), (∀ b o, b ∉ [s.heap.objs.size] → (s.heap.push { cls := .type "list_iterator", data := .fields #[.ref du, .int 0 0] }).get? b = some o → h₃.get? b = some o) → ∀ b o, s.heap.get? b = some o → h₃.get? b = some o :=
    fun s₃ hk b o e => hk b o (fun hm => Nat.ne_of_lt (Heap.lt_size e) (List.mem_singleton.mp hm)) (kI b o e)
  refine ⟨s.heap.objs.size, [s.heap.objs.size, du], [s.heap.objs.size], ys.toArray.size, _, _, m, rfl, Walks.list hh _ _ (Nat.ne_of_lt hlt) ys.toArray, (by rw [List.size_toArray]; exact Nat.le_trans hyl (by decide)), ⟨⟨_, Heap.get?_push_size _ rfl, rfl, rfl⟩, hl.push _⟩, ?_, ?_, hn.push _, ⟨?_, ?_⟩, ?_⟩
  · intro b hb
    show b < (s.heap.push _).objs.size
    rw [Heap.size_push]
    rcases List.mem_cons.mp hb with q | hb
    · rw [q]; exact Nat.lt_succ_self _
    · rw [List.mem_singleton.mp hb]; exact Nat.lt_succ_of_lt hlt
  · intro hm
    exact Nat.ne_of_lt hLs (List.mem_singleton.mp hm)
  · intro C i v s₃ m₃ E' _ hP hns hmx hk _
    have hk' := up _ hk
    have hvy : ys[i]? = some v := by simpa using hP
    obtain ⟨X, T, ss, hXm, rfl, hls, hp⟩ : ∃ X T ss, X ∈ lots ∧ v = .ref T ∧ LStr s.heap T ss ∧ ss.Perm (X.map nm) := by
      have key : ∀ {ys : List Value} {lots : List (List Nat)}, Paired (LotAt [] s.heap) ys lots → ∀ v ∈ ys, ∃ X T ss, X ∈ lots ∧ v = .ref T ∧ LStr s.heap T ss ∧ ss.Perm (X.map nm) := by
        intro ys lots hr
        induction hr with
        | nil => intro v hv; cases hv
        | cons h _ ih =>
          intro v hv
          rcases List.mem_cons.mp hv with q | q
          · obtain ⟨T, ss, e, _, h1, h2, _⟩ := h
            exact ⟨_, T, ss, .head _, q.trans e, h1, h2⟩
          · obtain ⟨X, T, ss, h1, h2⟩ := ih v q
            exact ⟨X, T, ss, .tail _ h1, h2⟩
      exact key hpr v (List.mem_of_getElem? hvy)
    refine wpAny_tests_one (wpAny_isTrue_Compare1 (wpAny_Name (wpAny_loadName_local (by rfl) (by rfl) hns hmx ?_) (by decide)))
    refine nilList (s := s₃) fun e4 h4 ee4 hl4 k4 => ?_
    refine neNil (s := { s₃ with heap := h4 }) (hls.at fun o e => k4 _ o (hk' _ o e)) hl4 (fun x hx => ?_) hu (wpAny_truthy_bool ⟨(fullAt_ref hls).symm, h4, s₃.toks, rfl, k4⟩)
    obtain ⟨n, hn', rfl⟩ := List.mem_map.mp (hp.mem_iff.mp hx)
    exact ⟨n, hX X hXm n hn', rfl⟩
  · intro C i v s₃ m₃ E' _ _ _ hns hmx _ _
    exact wpAny_Name (wpAny_loadName_local (by rfl) (by rfl) hns hmx ⟨rfl, s₃.heap, s₃.toks, rfl, fun _ _ e => e⟩) (by decide)
  · intro D h' tk zs vs hnew _ hpl' hlen hP hF hn' hk
    have e : vs = ys := by simpa using list_of_places hlen hP
    subst e
    have hz := Paired.eq hF
    have k' : ∀ b o, b ≠ L0 → s.heap.get? b = some o → h'.get? b = some o := fun b o hb e => hk b o hb (fun hm => Nat.ne_of_lt (Heap.lt_size e) (List.mem_singleton.mp hm)) (kI b o e)
    obtain ⟨c, hp⟩ := hpl'
    refine hQ h' tk D hn' ⟨vs.filter (fullAt s.heap), ⟨c, by rw [← hz, Array.toArray_toList]; exact hp⟩, lots_filter (fun l xs hl => hl.at fun o e => k' l o (ns_ne_list hn hl) e) hpr⟩ k'
end
end Mine
namespace Mine
open PySem PySem.W PyProof.Rows PySem.Calls

section
variable {prog : Program} {w : World} {A : Around} {E : Value → Shared → Prop} {s : Shared} {L0 tl du fd : Addr} {m : Str → Option Value} {lots : List (List Nat)} {kvs : List (Str × Value)}

theorem law7 {M : Nat} {tM : Tok} {rf : Bool} {Q : Flow → Shared → Prop} (G : Glo s.heap) (hu : A.units + 64 < cLine) (hn : s.heap.Ns L0 m) (h1 : m "told" = some (.ref tl)) (h2 : m "due" = some (.ref du)) (h3 : m "is_refused" = some (.bool rf)) (h4 : m "many" = some (.int (M : Int) tM))
    (hc2 : s.heap.IsCell (L0 + 2) (some (.ref fd))) (lo : (fd == sysModules) = false) (hD : s.heap.DictOf (strKind prog w) fd kvs) (hkl : kvs.length ≤ 100)
    (ht : LotsAt [] s.heap tl lots) (hd : LotsAt [] s.heap du lots) (hX : ∀ X ∈ lots, ∀ n ∈ X, n < 7) (hrf : rf = decide (kvs.length < M))
    (hQ : ∀ tk, Q (.ret (.bool true)) { s with toks := tk }) : wpAny (model prog w) A (exec (lawSt 7) (eLaw L0)) Q E s := by
  refine wpAny_Return_some (BoolOp_and (wpAny_Compare1 (ldN hn h1 (ldN hn h2 (eqLots ht hd hX hu (wpAny_truthy_bool ?_))))))
  show wpAny _ _ _ _ _ _
  refine BoolOp_one (wpAny_Compare1 (ldN hn h3 (wpAny_Compare1 ?_)))
  refine Call_ (nmB G (fun _ _ k => ⟨k.len0, k.len1⟩) (PyProof.Rows.callWith_builtin1 (spliced_more (wpAny_Name (wpAny_loadName_cell (by rfl) (by rfl) (by rfl) hc2 (spliced_none ?_)) (by decide)))))
  refine call_len_dict (knd := strKind prog w) lo hD (by omega) ?_
  refine ldN (s := { s with toks := _ }) hn h4 (PyProof.Rows.lt_int ?_)
  have e : decide ((kvs.length : Int) < (M : Int)) = rf := by rw [hrf]; simp
  rw [e]
  refine PyProof.Rows.eq_bool ?_
  rw [beq_self_eq_true]
  exact hQ _
end
end Mine
namespace Mine
open PySem PySem.W PyProof.Rows PySem.Calls

theorem DOk.deps {D : List (Nat × List Nat)} {M : Nat} (h : DOk D M M) (hM : M ≤ 7) : Deps D := ⟨h.1.nodup, (h.names hM).1, (h.names hM).2⟩
theorem Deep.withCell {prog : Program} {w : World} {W : List Addr} {h : Heap} {d c : Addr} {D : List (Nat × List Nat)} {v : Option Value} (x : Deep prog w W h d D) (hc : h.IsCell c v) : Deep prog w (c :: W) h d D := by
  obtain ⟨kvs, a, r, q, e⟩ := x
  obtain ⟨oc, hoc, hdc⟩ := hc
  refine ⟨kvs, a, r, fun k l hm hq => ?_, fun hq => ?_⟩
  · rcases List.mem_cons.mp hq with z | z
    · obtain ⟨xs, us, ⟨n, y⟩, _⟩ := r.lists k l hm
      rw [z, hoc] at y
      injection y with y
      rw [y] at hdc; cases hdc
    · exact q k l hm z
  · rcases List.mem_cons.mp hq with z | z
    · obtain ⟨o, es, ep, ho, hcl, hdt, _⟩ := a
      rw [z, hoc] at ho
      cases ho
      rw [hdc] at hdt; cases hdt
    · exact e z
theorem LotsAt.lists {h h' : Heap} {l : Addr} {ls : List (List Nat)} (x : LotsAt [] h l ls) (hk : ∀ a (vs : List Value), h.PlainList a vs.toArray → h'.PlainList a vs.toArray) : LotsAt [] h' l ls :=
  let ⟨ys, hp, r⟩ := x; ⟨ys, hk _ _ hp, r.mono fun _ _ ⟨T, ss, e, hT, ⟨us, hu, hs⟩, q⟩ => ⟨T, ss, e, hT, ⟨us, hk _ _ hu, hs⟩, q⟩⟩
theorem plain_ne_ns {h : Heap} {L a : Addr} {m : Str → Option Value} {items : Array Value} (hn : h.Ns L m) (hp : h.PlainList a items) : a ≠ L := fun q => by
  obtain ⟨o, es, ep, ho, hd, _⟩ := hn
  obtain ⟨_, ho'⟩ := hp
  rw [q, ho] at ho'; cases ho'; cases hd
theorem plain_ne_cell {h : Heap} {c a : Addr} {v : Option Value} {items : Array Value} (hc : h.IsCell c v) (hp : h.PlainList a items) : a ≠ c := fun q => by
  obtain ⟨o, ho, hd⟩ := hc
  obtain ⟨_, ho'⟩ := hp
  rw [q, ho] at ho'; cases ho'; cases hd
theorem Cl.to {L : Addr} {cs : List (Str × Addr)} {h h' : Heap} {cm : Str → Option Value} (X : Cl L cs h cm) (hk : ∀ n c, cs.lookup n = some c → ∀ o, h.get? c = some o → h'.get? c = some o) : Cl L cs h' cm :=
  ⟨fun n c e => let ⟨o, ho, hd⟩ := X.cell n c e; ⟨o, hk n c e o ho, hd⟩, X.apart, X.above⟩
theorem lookup_lt {cs : List (Str × Addr)} {n : Str} {c b : Addr} (h : ∀ p ∈ cs, p.2 < b) (e : cs.lookup n = some c) : c < b := h _ (mem_of_lookup e)

section
variable {prog : Program} {w : World} {A : Around} {E : Value → Shared → Prop} {s : Shared} {R : Result → Shared → Prop} {h₀ : Heap} {L0 : Addr} {m cm : Str → Option Value}

theorem stCellL {x : Str} {c : Addr} {v : Value} {Q : Unit → Shared → Prop} (F : Fr h₀ L0 s.heap m) (X : Cl L0 (cLaw L0) s.heap cm) (hc : (cLaw L0).lookup x = some c)
    (h : ∀ h', Fr h₀ L0 h' m → Cl L0 (cLaw L0) h' (fun y => if y = x then some v else cm y) → (∀ b o, b ≠ c → s.heap.get? b = some o → h'.get? b = some o) → Q () { s with heap := h' })
    (hl : (eLaw L0).kindOf x = some .cell := by rfl) : wpAny (model prog w) A (storeName (eLaw L0) x v) Q E s := by
  have hLc : L0 < c := X.above x c (mem_of_lookup hc)
  refine wpAny_storeName_cell (by rfl) hl hc (X.cell x c hc) fun h5 hv hs => h h5 ?_ ?_ (fun b o hb e => (hs.2 b hb).trans e)
  · exact ⟨F.ns.sameBut hs (Nat.ne_of_lt hLc), fun b o e => (hs.2 b (Nat.ne_of_lt (Nat.lt_trans (Nat.lt_of_lt_of_le (Heap.lt_size e) F.above) hLc))).trans (F.keep b o e), F.above⟩
  · refine ⟨fun n c' e => ?_, X.apart, X.above⟩
    by_cases hx : n = x
    · subst hx; rw [hc] at e; cases e; simpa using hv
    · rw [if_neg hx]
      exact (X.cell n c' e).sameBut hs fun q => hx (name_of_addr X.apart (mem_of_lookup e) (q ▸ mem_of_lookup hc))
theorem stLL {x : Str} {v : Value} {Q : Unit → Shared → Prop} (F : Fr h₀ L0 s.heap m) (X : Cl L0 (cLaw L0) s.heap cm)
    (h : ∀ h', Fr h₀ L0 h' (fun y => if y = x then some v else m y) → Cl L0 (cLaw L0) h' cm → (∀ b o, b ≠ L0 → s.heap.get? b = some o → h'.get? b = some o) → Q () { s with heap := h', toks := s.toks + 1 })
    (hl : (eLaw L0).kindOf x = some .local := by rfl) : wpAny (model prog w) A (storeName (eLaw L0) x v) Q E s := stL F X h (by rfl) hl

/-- the first three statements -/
theorem law012 {rest : List Stmt} {l : Addr} {vs : List Value} {ns : List Int} {Q : Flow → Shared → Prop} (hh : A.handled = none) (hu : A.units + 200 < cLine) (hroom : A.depth + 20 < recursionLimit)
    (G : Gn h₀) (F : Fr h₀ L0 s.heap m) (X : Cl L0 (cLaw L0) s.heap cm) (hms : m "script" = some (.ref l)) (hl : s.heap.IsList l vs.toArray) (hi : IntsAre vs ns) (hn : ns.length ≤ 63)
    (hQ : ∀ h' tk m' cm' d D M kvD fd kvs tl tM, Fr h₀ L0 h' m' → Cl L0 (cLaw L0) h' cm' → cm' "leaning" = some (.ref d) → cm' "depths" = some (.ref fd) → (d == sysModules) = false → (fd == sysModules) = false → M ≤ 7 → DOk D M M →
      h'.DictOf (strKind prog w) d kvD → DRel h' kvD D → h'.DictOf (strKind prog w) fd kvs → FRel kvs (depthsOf D) → h₀.get? fd = none → fd ≠ L0 → h'.PlainList tl ([] : List Value).toArray → h₀.get? tl = none → tl ≠ L0 → fd ≠ tl → (∀ n c, (cLaw L0).lookup n = some c → c ≠ tl) →
      m' "told" = some (.ref tl) → m' "is_refused" = some (.bool false) → m' "many" = some (.int ((namesOf D).length : Nat) tM) → wpAny (model prog w) A (execs rest (eLaw L0)) Q No { s with heap := h', toks := tk }) :
    wpAny (model prog w) A (execs (lawSt 0 :: lawSt 1 :: lawSt 2 :: rest) (eLaw L0)) Q No s := by
  have cA : (cLaw L0).lookup (Str.ofString "leaning") = some (L0 + 1) := by rfl
  have cB : (cLaw L0).lookup (Str.ofString "depths") = some (L0 + 2) := by rfl
  have cC : (cLaw L0).lookup (Str.ofString "depth") = some (L0 + 3) := by rfl
  have k1 := F.keep
  have hLs : L0 < s.heap.objs.size := F.ns.lt
  -- leaning = _law_leaning(script)
  obtain ⟨fo, fpm, fdoc, fho, fhd, _⟩ := (G.glo.keeps k1).flean
  refine wpAny_execs_cons (wpAny_Assign_Name (Call_ (nmG (G.glo.keeps k1) (fun _ _ k => k.lean) (callWith_def_at fho fhd (spliced_more (ldLoc F hms (spliced_none ⟨fho, ?_⟩)))))))
  refine lean_spec hh (G.glo.keeps k1) (by omega) (by omega) hl hi hn fun h2 tk2 d D M k2 hdn dS hM hok hDp => ?_
  have F2 := F.after k2
  have X2 := X.keeps k2
  have hdL : d ≠ L0 := fun q => by
    obtain ⟨o, _, _, ho, _⟩ := F.ns
    rw [q, ho] at hdn; cases hdn
  have DW : Deep prog w [L0, L0 + 1, L0 + 2, L0 + 3] h2 d D := (((hDp.withCell (X2.cell _ _ cC)).withCell (X2.cell _ _ cB)).withCell (X2.cell _ _ cA)).withNs F2.ns hdL
  refine stCellL (s := { s with heap := h2, toks := tk2 }) F2 X2 cA fun h3 F3 X3 k3 => ?_
  have D3 : Deep prog w [L0, L0 + 1, L0 + 2, L0 + 3] h3 d D := DW.frame fun b o hb e => k3 b o (fun q => hb (q ▸ .tail _ (.head _))) e
  -- depths, many = _law_depths(leaning)
  obtain ⟨go, gpm, gdoc, gho, ghd, _⟩ := (G.glo.keeps F3.keep).fdeps
  refine wpAny_execs_cons (Assign_Tuple (Call_ (nmG (s := { s with heap := h3, toks := tk2 }) (G.glo.keeps F3.keep) (fun _ _ k => k.deps) (callWith_def_at gho ghd (spliced_more (ldC (s := { s with heap := h3, toks := tk2 }) X3 cA rfl (spliced_none ⟨gho, ?_⟩)))))))
  refine deps_spec (s := { s with heap := h3, toks := tk2 }) (D := D) (M := M) hh (G.glo.keeps F3.keep) (by omega) (by omega) (D3.sub fun b hb => by cases hb) dS hM hok fun h4 tk4 tp fd t kvs k4 htp hfd hfr fdS hfn => ?_
  have F4 := F3.after k4
  have X4 := X3.keeps k4
  have hfL : fd ≠ L0 := fun q => by
    obtain ⟨o, _, _, ho, _⟩ := F3.ns
    have hfn' : h3.get? fd = none := hfn
    rw [q, ho] at hfn'; cases hfn'
  have hf0 : h₀.get? fd = none := by
    cases e : h₀.get? fd with
    | none => rfl
    | some o => have := F3.keep _ _ e; have hfn' : h3.get? fd = none := hfn; rw [hfn'] at this; cases this
  refine assign_Tuple_tuple (s := { s with heap := h4, toks := tk4 }) (items := [Value.ref fd, Value.int ((namesOf D).length : Nat) t].toArray) hh ⟨_, htp, rfl, _, rfl⟩ (by rfl) (by rfl) fun h5 x5 => ?_
  have k5 : ∀ b o, h4.get? b = some o → h5.get? b = some o := fun b o e => x5 b o (Nat.ne_of_lt (Heap.lt_size e)) e
  have F5 := F4.after k5
  have X5 := X4.keeps k5
  refine assignInOrder_cons (wpAny_assign_Name (stCellL (s := { s with heap := h5, toks := tk4 }) F5 X5 cB fun h6 F6 X6 k6 => ?_))
  refine assignInOrder_cons (wpAny_assign_Name (stLL (s := { s with heap := h6, toks := tk4 }) F6 X6 fun h7 F7 X7 k7 => ?_))
  refine assignInOrder_nil ?_
  have D7 : Deep prog w [L0, L0 + 1, L0 + 2, L0 + 3] h7 d D := D3.frame fun b o hb e => k7 b o (fun q => hb (q ▸ .head _)) (k6 b o (fun q => hb (q ▸ .tail _ (.tail _ (.head _)))) (k5 b o (k4 b o e)))
  have hfc : fd ≠ L0 + 2 := fun q => by
    obtain ⟨oc, hoc, hdc⟩ := X4.cell _ _ cB
    obtain ⟨o, es, ep, ho, hcl, hdt, _⟩ := hfd
    rw [q, hoc] at ho; cases ho
    rw [hdc] at hdt; cases hdt
  have fd7 : h7.DictOf (strKind prog w) fd kvs := hfd.at fun o e => k7 _ o hfL (k6 _ o hfc (k5 _ o e))
  -- told, is_refused = ([], False)
  refine wpAny_execs_cons (Assign_Tuple_swapped (Tuple_ (spliced_more (List_ (spliced_none (newList_raw (s := { s with heap := h7, toks := _ }) (fun tl h8 etl htl k8 _ => ?_) (by decide)))))))
  refine spliced_more (wpAny_Constant_bool (spliced_none (newTuple_raw (s := { s with heap := h8, toks := _ }) (fun tq h9 etq htq k9 _ => ?_) (show 2 ≤ sizeLine by decide))))
  have k79 : ∀ b o, h7.get? b = some o → h9.get? b = some o := fun b o e => k9 b o (k8 b o e)
  have F9 := F7.after k79
  have X9 := X7.keeps k79
  refine unpackItems_tuple (s := { s with heap := h9, toks := _ }) (items := [Value.ref tl, Value.bool false].toArray) hh ⟨_, htq, rfl, _, rfl⟩ (fun h10 x10 => ?_)
  have k10 : ∀ b o, h9.get? b = some o → h10.get? b = some o := fun b o e => x10 b o (Nat.ne_of_lt (Heap.lt_size e)) e
  refine assignInOrder_cons (wpAny_bindName (stLL (s := { s with heap := h10, toks := _ }) (F9.after k10) (X9.keeps k10) fun h11 F11 X11 k11 => ?_))
  refine assignInOrder_cons (wpAny_bindName (stLL (s := { s with heap := h11, toks := _ }) F11 X11 fun h12 F12 X12 k12 => ?_))
  refine assignInOrder_nil ?_
  have htl7 : h7.get? tl = none := get_none (Nat.le_of_eq etl.symm)
  have htL : tl ≠ L0 := fun q => by
    obtain ⟨o, _, _, ho, _⟩ := F7.ns
    rw [q, ho] at htl7; cases htl7
  have up : ∀ b o, b ≠ L0 → h7.get? b = some o → h12.get? b = some o := fun b o hb e => k12 b o hb (k11 b o hb (k10 b o (k79 b o e)))
  obtain ⟨kvD, q1, q2, q3, q4⟩ := D7.frame (h' := h12) fun b o hb e => up b o (fun q => hb (q ▸ .head _)) e
  have ht12 : h12.PlainList tl ([] : List Value).toArray := htl.at fun o e => k12 _ o htL (k11 _ o htL (k10 _ o (k9 _ o e)))
  refine hQ h12 _ _ _ d D M kvD fd kvs tl t F12 X12 (by rfl) (by rfl) dS fdS hM hok q1 q2 (fd7.at fun o e => up _ o hfL e) hfr hf0 hfL ht12 ?_ htL ?_ (fun n c e => ?_) (by rfl) (by rfl) (by rfl)
  · cases e : h₀.get? tl with
    | none => rfl
    | some o => have := F7.keep _ _ e; rw [htl7] at this; cases this
  · intro q
    obtain ⟨o, _, _, ho, _⟩ := fd7
    rw [q, htl7] at ho; cases ho
  · intro q
    obtain ⟨o, ho, _⟩ := X7.cell n c e
    rw [q, htl7] at ho; cases ho
end
end Mine
namespace Mine
open PySem PySem.W PyProof.Rows PySem.Calls

section
variable {prog : Program} {w : World} {A : Around} {s : Shared} {R : Result → Shared → Prop}

theorem law_spec {l : Addr} {vs : List Value} {ns : List Int} {ps : Array Value} (hh : A.handled = none) (hg : A.guards = some []) (hf : A.frames = some []) (hu : A.units + 400 < cLine) (hroom : A.depth + 60 < recursionLimit)
    (G : Gn s.heap) (ht : CodeTab s.heap ps) (hlaw : DefAt s.heap 43 42 "law" dLaw) (hl : s.heap.IsList l vs.toArray) (hi : IntsAre vs ns) (hn : ns.length ≤ 63)
    (hR : ∀ s', Sv s.heap s'.heap → ((∀ x ∈ s.gens, x.bare = true) → ∀ x ∈ s'.gens, x.bare = true) → s'.os = s.os → R (.ok (.ret (.bool true))) s') :
    codeAny (model prog w) A (.call (.ref 43) ⟨[.ref l], []⟩) R s := by
  obtain ⟨o, pm, doc, ho, hd, hcd⟩ := hlaw
  have sv0 : Sv s.heap s.heap := .start G ht
  refine call_cells_ret (binds := [(Str.ofString "script", Value.ref l)]) (by omega) ho hd G.glo.nolimit hcd (by rfl) (by
    intro x hx; simp only [List.mem_cons, List.not_mem_nil, or_false] at hx; subst hx; exact .inl (by rfl)) (fun h₁ tk F X => ?_)
  generalize hL : s.heap.objs.size = L0 at F X ⊢
  have hu' : (A.deeper (eLaw L0)).units + 300 < cLine := by rw [Around.deeper_units]; omega
  have hh' : (A.deeper (eLaw L0)).handled = none := hh
  have hf' : (A.deeper (eLaw L0)).frames = some [eLaw L0] := Around.frames_deeper hf
  have hg' : (A.deeper (eLaw L0)).guards = some [] := hg
  have hr' : (A.deeper (eLaw L0)).depth + 30 < recursionLimit := by rw [depth_deeper]; omega
  change wpAny (model prog w) (A.deeper (eLaw L0)) _ _ _ _
  generalize hA' : A.deeper (eLaw L0) = A' at hu' hh' hf' hg' hr' ⊢
  have k1 : ∀ b o, s.heap.get? b = some o → h₁.get? b = some o := F.keep
  have n0 : s.heap.get? L0 = none ∧ s.heap.get? (L0 + 3) = none := ⟨get_none (Nat.le_of_eq hL), get_none (Nat.le_trans (Nat.le_of_eq hL) (Nat.le_add_right _ _))⟩
  have cA : (cLaw L0).lookup (Str.ofString "leaning") = some (L0 + 1) := by rfl
  have cB : (cLaw L0).lookup (Str.ofString "depths") = some (L0 + 2) := by rfl
  have cC : (cLaw L0).lookup (Str.ofString "depth") = some (L0 + 3) := by rfl
  refine law012 (s := { s with heap := h₁, toks := tk }) hh' (by omega) (by omega) G F X (by rfl) (hl.at fun o e => k1 _ o e) hi hn fun h2 tk2 m2 cm2 d D M kvD fd kvs tl tM F2 X2 c1 c2 dS fdS hM hok hD dr hfd hfr hf0 hfL htl htl0 htL hft hct m1 m3 m4 => ?_
  have hdp : Deps D := hok.deps hM
  obtain ⟨b1, b2, b3⟩ := hok.lt7 hM
  have b4 : ∀ p ∈ D, p.2.Nodup := fun p hp => (hok.2 p hp).nodup
  have sv2 : Sv s.heap h2 := sv0.keeps F2.keep
  have h16 : (16 : Addr) < L0 := hL ▸ sv0.lt16
  have a16 : ∃ o, s.heap.get? 16 = some o := by
    obtain ⟨_, _, _, _, _, _, _, _, _, _, op, _, _, _, _, _, _, _, e2, _⟩ := sv0.code
    exact ⟨op, e2⟩
  have notW : ∀ b, s.heap.get? b = none → b ≠ 16 := fun b hb q => by
    obtain ⟨o, ho⟩ := a16
    rw [q, ho] at hb; cases hb
  have hlots : ∀ X ∈ ((List.range (namesOf D).length).map (lotAt D)).filter (fun l => !l.isEmpty), X.Nodup ∧ X.length ≤ 7 := fun X hX => by
    obtain ⟨r, _, rfl⟩ := List.mem_map.mp (List.mem_filter.mp hX).1
    refine ⟨List.nodup_range.filter _, ?_⟩
    exact Nat.le_trans (List.length_filter_le _ _) (by rw [List.length_range]; exact Nat.le_refl _)
  have hX7 : ∀ X ∈ (List.range (namesOf D).length).map (lotAt D), ∀ n ∈ X, n < 7 := fun X hX n hn' => by
    obtain ⟨r, _, rfl⟩ := List.mem_map.mp hX
    exact List.mem_range.mp (List.mem_filter.mp hn').1
  have hnl : (namesOf D).length ≤ 7 := nodup_len hdp.names hdp.lt
  refine wpAny_execs_cons (law3 (s := { s with heap := h2, toks := tk2 }) (h₀ := s.heap) (refused := decide ((depthsOf D).length < (namesOf D).length)) hh' hg' (by omega) (by omega) hf' sv2 X2 c1 dS hD dr b1 b2 b3 b4 hok.1.nodup F2.ns m1 m3 htl ⟨Nat.ne_of_gt h16, notW tl htl0, htL⟩ ⟨n0.1, htl0⟩
    (runs_of hdp) hlots (Nat.le_trans (List.length_filter_le _ _) (by rw [List.length_map, List.length_range]; omega)) fun s3 m5 hn5 hm5 hr5 hl5 sv5 st5 => ?_)
  have keepC : ∀ n c, (cLaw L0).lookup n = some c → c ∉ [16, L0, tl] := fun n c e hm => by
    have hLc : L0 < c := X2.above n c (mem_of_lookup e)
    rcases List.mem_cons.mp hm with q | hm
    · exact Nat.lt_irrefl _ (Nat.lt_trans (q ▸ hLc) h16)
    · rcases List.mem_cons.mp hm with q | hm
      · exact Nat.ne_of_gt hLc q
      · exact hct n c e (List.mem_singleton.mp hm)
  have hfd5 : s3.heap.DictOf (strKind prog w) fd kvs := hfd.at fun o e => st5.heap _ o (fun hm => by
    rcases List.mem_cons.mp hm with q | hm
    · exact notW fd hf0 q
    · rcases List.mem_cons.mp hm with q | hm
      · exact hfL q
      · exact hft (List.mem_singleton.mp hm)) e
  have X5 : Cl L0 (cLaw L0) s3.heap cm2 := Cl.to X2 fun n c e o ho => st5.heap c o (keepC n c e) ho
  -- due = []
  refine wpAny_execs_cons (wpAny_Assign_Name (List_ (spliced_none (newList_raw (s := s3) (fun du h6 edu hdu k6 _ => ?_) (by decide)))))
  refine wpAny_storeName_local (s := { s3 with heap := h6 }) (by rfl) (hn5.keeps k6) (fun h7 hn7 hs7 => ?_) (by rfl)
  have k67 : ∀ b o, b ≠ L0 → s3.heap.get? b = some o → h7.get? b = some o := fun b o hb e => (hs7.2 b hb).trans (k6 b o e)
  have hdu7 : h7.PlainList du ([] : List Value).toArray := hdu.at fun o e => (hs7.2 du (plain_ne_ns (hn5.keeps k6) hdu)).trans e
  have sv7 : Sv s.heap h7 := sv5.off [L0] (fun b hb => by rw [List.mem_singleton.mp hb]; exact n0.1) fun b o hb e => k67 b o (fun q => hb (q ▸ .head _)) e
  have X7 : Cl L0 (cLaw L0) h7 cm2 := Cl.to X5 fun n c e o ho => k67 c o (Nat.ne_of_gt (X2.above n c (mem_of_lookup e))) ho
  have hfd7 : h7.DictOf (strKind prog w) fd kvs := hfd5.at fun o e => k67 _ o hfL e
  have hl7 : LotsAt [] h7 tl _ := hl5.lists fun a vs hp => hp.at fun o e => k67 a o (plain_ne_ns hn5 hp) e
  have c2' : h7.IsCell (L0 + 2) (some (.ref fd)) := c2 ▸ X7.cell _ _ cB
  -- the loop over the depths
  refine wpAny_execs_cons (law5 (s := { s3 with heap := h7, toks := _ }) (h₀ := s.heap) (M := (namesOf D).length) (tM := tM) hh' sv7 hdp n0 hn7 (by rfl) (by rw [if_neg (by decide), hm5 _ (by decide) (by decide)]; exact m4) (by omega) c2' (X7.cell _ _ cC) fdS hfL hfd7 hfr hdu7 fun h8 tk8 m8 du8 hn8 hm8 hd8 hl8 k8 => ?_)
  have off8 : ∀ b o, b ≠ L0 → b ≠ L0 + 3 → h7.get? b = some o → h8.get? b = some o := fun b o q1 q2 e => k8 b o (fun hm => by
    rcases List.mem_cons.mp hm with q | hm
    · exact q1 q
    · exact q2 (List.mem_singleton.mp hm)) e
  have hfc3 : fd ≠ L0 + 3 := fun q => by
    obtain ⟨oc, hoc, hdc⟩ := X7.cell _ _ cC
    obtain ⟨o, es, ep, ho, hcl, hdt, _⟩ := hfd7
    rw [q, hoc] at ho; cases ho
    rw [hdc] at hdt; cases hdt
  have hl8t : LotsAt [] h8 tl _ := hl7.lists fun a vs hp => hp.at fun o e => off8 a o (plain_ne_ns hn7 hp) (plain_ne_cell (X7.cell _ _ cC) hp) e
  have hfd8 : h8.DictOf (strKind prog w) fd kvs := hfd7.at fun o e => off8 _ o hfL hfc3 e
  have c28 : h8.IsCell (L0 + 2) (some (.ref fd)) := let ⟨o, e, r⟩ := c2'; ⟨o, off8 _ _ (Nat.ne_of_gt (Nat.lt_add_of_pos_right (by decide))) (Nat.ne_of_lt (Nat.lt_succ_self _)) e, r⟩
  have sv8 : Sv s.heap h8 := sv7.off [L0, L0 + 3] (fun b hb => by
    rcases List.mem_cons.mp hb with q | hb
    · rw [q]; exact n0.1
    · rw [List.mem_singleton.mp hb]; exact n0.2) fun b o hb e => k8 b o hb e
  -- due = [lot for lot in due if lot != []]
  refine wpAny_execs_cons (law6 (s := { s3 with heap := h8, toks := tk8 }) hh' (by omega) hn8 hd8 hl8 (by rw [List.length_map, List.length_range]; omega) hX7 fun h9 tk9 du9 hn9 hl9 k9 => ?_)
  have sv9 : Sv s.heap h9 := sv8.off [L0] (fun b hb => by rw [List.mem_singleton.mp hb]; exact n0.1) fun b o hb e => k9 b o (fun q => hb (q ▸ .head _)) e
  have hl9t : LotsAt [] h9 tl _ := hl8t.lists fun a vs hp => hp.at fun o e => k9 a o (plain_ne_ns hn8 hp) e
  have mm : ∀ x : Str, x ≠ "due" → m8 x = m5 x := fun x hx => (hm8 x hx).trans (if_neg hx)
  -- return
  refine wpAny_execs_cons (law7 (s := { s3 with heap := h9, toks := tk9 }) (M := (namesOf D).length) (tM := tM) (rf := decide ((depthsOf D).length < (namesOf D).length)) (lots := ((List.range (namesOf D).length).map (lotAt D)).filter fun l => !l.isEmpty) (kvs := kvs) (tl := tl) (du := du9) (fd := fd)
    sv9.gn.glo (by omega) hn9 ?_ (by rfl) ?_ ?_ (let ⟨o, e, r⟩ := c28; ⟨o, k9 _ _ (Nat.ne_of_gt (Nat.lt_add_of_pos_right (by decide))) e, r⟩) fdS (hfd8.at fun o e => k9 _ o hfL e) ?_ hl9t hl9 (fun X hX => hX7 X (List.mem_filter.mp hX).1) (by rw [hfr.length]) fun tk10 => ?_)
  · rw [if_neg (by decide), mm _ (by decide), hm5 _ (by decide) (by decide)]; exact m1
  · rw [if_neg (by decide), mm _ (by decide)]; exact hr5
  · rw [if_neg (by decide), mm _ (by decide), hm5 _ (by decide) (by decide)]; exact m4
  · rw [hfr.length]
    have := (FOk.rounds (ns := namesOf D) (D := D) (namesOf D).length).len hdp.lt
    exact Nat.le_trans this (by decide)
  · exact hR { s3 with heap := h9, toks := tk10 } sv9 (fun h => st5.bare h) st5.os
end
end Mine
namespace Mine
open PySem PySem.W PyProof.Rows PySem.Calls

def codeOf (o : Obj) : Value := match o.data with
  | .func fd => fd.code
  | _ => .none
def entriesOf (o : Obj) : Array DictEntry := match o.data with
  | .dict es _ => es
  | _ => #[]
def fieldOf (o : Obj) (i : Nat) : Value := match o.data with
  | .fields vs => vs.getD i .none
  | _ => .none

theorem ns_at {h : Heap} {a : Addr} {m : Str → Option Value} {o : Obj} (hn : h.Ns a m) (ho : h.get? a = some o) (x : Str) : m x = nsFind (entriesOf o) x := by
  obtain ⟨o', es, ep, ho', hd, _, hf⟩ := hn
  rw [ho] at ho'
  cases ho'
  unfold entriesOf
  rw [hd]
  exact (hf x).symm

section
variable {p : Program} {loose : List Str} {mean : ExcName → Option Value} {mg mb : Str → Option Value} {h : Heap}

theorem defAt_of (T : Top p loose mean mg mb h) {d : DefRec} {name : Str} (hf : (recsOf p).find? (fun e => e.name == name) = some d) {a c : Addr} {oK : Obj} (hm : mg name = some (.ref a)) (hk : h.get? a = some oK) (hc : codeOf oK = .ref c) :
    ∃ o pm doc, h.get? a = some o ∧ o.data = .func (docDef name d.params d.body d.scope pm (.ref c) doc) ∧ h.CodeRec (.ref c) name := by
  have hn : d.name = name := beq_iff_eq.mp (List.find?_some (p := fun e : DefRec => e.name == name) hf)
  obtain ⟨a', o, pm, code, doc, h1, h2, h3, h4⟩ := T.fn d (List.mem_of_find?_eq_some hf)
  rw [hn, hm] at h1; cases h1
  have h2' := h2
  rw [hk] at h2'; cases h2'
  rw [hn] at h3 h4
  have e : code = .ref c := by
    rw [← hc]
    unfold codeOf
    rw [h3]; rfl
  subst e
  exact ⟨oK, pm, doc, h2, h3, h4⟩

theorem codeTab_of (T : Top p loose mean mg mb h) {d : DefRec} {name : Str} (hf : (recsOf p).find? (fun e => e.name == name) = some d) {a : Addr} {oK oC : Obj} (hm : mg name = some (.ref a)) (hk : h.get? a = some oK) (hc : codeOf oK = .ref 18) (hk2 : h.get? 18 = some oC) (hc2 : fieldOf oC 11 = .ref 16) :
    CodeTab h #[] := by
  have hn : d.name = name := beq_iff_eq.mp (List.find?_some (p := fun e : DefRec => e.name == name) hf)
  obtain ⟨a', o, fd, c, P, h1, h2, h3, h4, h5, h6⟩ := T.tab d (List.mem_of_find?_eq_some hf)
  rw [hn, hm] at h1; cases h1
  rw [hk] at h2; cases h2
  have e : c = 18 := by
    have : codeOf oK = .ref c := by unfold codeOf; rw [h3]; exact h4
    rw [hc] at this
    injection this with this
    exact this.symm
  subst e
  have e2 : P = 16 := by
    obtain ⟨o', vs, _, _, _, _, _, _, _, _, q1, q2, q3, _⟩ := h5
    rw [hk2] at q1; cases q1
    have : fieldOf oC 11 = .ref P := by unfold fieldOf; rw [q2]; exact q3
    rw [hc2] at this
    injection this with this
    exact this.symm
  subst e2
  exact ⟨h5, h6⟩

theorem oldK_of {h₀ h : Heap} (x : Sv h₀ h) : OldK h₀ h := by
  obtain ⟨ps₀, more, t0, t1⟩ := x.grown
  refine ⟨fun b o e => ?_, fun b o e => ?_⟩
  · by_cases hb : b = 16
    · subst hb
      have e0 := t0.2
      rw [e] at e0
      cases e0
      exact .inr (.inl ⟨t0.isCodeTable, rfl, ps₀, more, rfl, t1.2.2⟩)
    · exact .inl (x.keep b o hb e)
  · by_cases hb : b = 16
    · subst hb; exact ⟨_, t1.2.2⟩
    · exact ⟨o, x.keep b o hb e⟩
end
end Mine
open PySem PySem.W PyProof.Rows
set_option maxHeartbeats 8000000 in
theorem PySem.Challenge.cw_fe0208_01_holds : PySem.Challenge.rw_fe0208_01.Holds := by
  w_on
  o_law
  k_head
  (case hw => w_witness2)
  k_fill
  intro w s₀ s₁ mg mb G Y fa o pm cd doc dV kV ho hd hcd hD hmg hg args vals as hpre hlay hrd hwl hlo
  have KX := kIn_of Y
  refine Ground.open G ?_
  intro T _ D _ _
  clear D
  wrow_args hpre hlay hrd hwl hlo
  all_goals (
    first | refine callC_kw (enter_call ?_) | refine enter_call ?_ | refine callC_kw (enter_callW ?_) | refine enter_callW ?_ | w_how)
  have hI := ‹IntsAre _ _›
  have hL := ‹s₁.heap.IsList _ (List.toArray _)›
  have hlen := ‹¬ ((63 : Nat) : Int) < _›
  have g3 := KX 3 _ rfl
  have NS3 := Mine.ns_at T.g g3
  have e1 : mg "law" = some (.ref 43) := by rw [NS3]; rfl
  have efa : fa = 43 := by
    rw [e1] at hmg
    injection hmg with hmg
    injection hmg with hmg
    exact hmg.symm
  subst efa
  have m26 : mg "_law_cell" = some (.ref 26) := by rw [NS3]; rfl
  have m33 : mg "_law_leaning" = some (.ref 33) := by rw [NS3]; rfl
  have m38 : mg "_law_depths" = some (.ref 38) := by rw [NS3]; rfl
  have m19 : mg "solve_dependencies" = some (.ref 19) := by rw [NS3]; rfl
  have names : Mine.NamesOk mg mb := by
    refine ⟨m26, m33, m38, m19, ?_, ?_, ?_, ?_, ?_, ?_, ?_, ?_, ?_, ?_, ?_, ?_, ?_, ?_, ?_, ?_, ?_, ?_, ?_, ?_, ?_, ?_, ?_, ?_⟩
    all_goals first
      | (rw [NS3]; rfl)
      | (rw [T.builtins _ (by decide)]; rfl)
  have d26 : Mine.DefAt s₁.heap 26 25 "_law_cell" Mine.dCell := Mine.defAt_of T (name := "_law_cell") rfl m26 (KX 26 _ rfl) rfl
  have d33 : Mine.DefAt s₁.heap 33 32 "_law_leaning" Mine.dLean := Mine.defAt_of T (name := "_law_leaning") rfl m33 (KX 33 _ rfl) rfl
  have d38 : Mine.DefAt s₁.heap 38 37 "_law_depths" Mine.dDeps := Mine.defAt_of T (name := "_law_depths") rfl m38 (KX 38 _ rfl) rfl
  have d19 : Mine.DefAt s₁.heap 19 18 "solve_dependencies" Mine.dSolve := Mine.defAt_of T (name := "solve_dependencies") rfl m19 (KX 19 _ rfl) rfl
  have d43 : Mine.DefAt s₁.heap 43 42 "law" Mine.dLaw := Mine.defAt_of T (name := "law") rfl e1 (KX 43 _ rfl) rfl
  have ct : Mine.CodeTab s₁.heap #[] := Mine.codeTab_of T (name := "solve_dependencies") rfl m19 (KX 19 _ rfl) rfl (KX 18 _ rfl) rfl
  have gl : Mine.Glo s₁.heap := ⟨T.nolimit, ⟨mg, mb, T.g, T.b, names⟩, d26, d33, d38, d19⟩
  have mbi : mg "__builtins__" = some (.ref 4) := by rw [NS3]; rfl
  have gn : Mine.Gn s₁.heap := ⟨gl, ⟨_, ct.1⟩, mg, T.g, by
    obtain ⟨bm, ob, q1, q2, q3, q4, q5, q6⟩ := T.bmain
    rw [mbi] at q1
    injection q1 with q1
    injection q1 with q1
    subst q1
    exact ⟨4, ob, mbi, q2, by decide, by decide, q3, q4, q5, q6⟩⟩
  refine Mine.law_spec (A := callerA) rfl rfl rfl (by decide) (by decide) gn ct d43 hL hI (by omega) fun s' sv hb hos => ?_
  refine ⟨.inl ⟨.bool true, _, _, rfl, ?_, .bool true, ?_, ?_⟩, Mine.oldK_of sv, hos, fun y hy => hb (by rw [hg]; intro x hx; simp at hx) y hy⟩
  · intro cls; rfl
  · exact postW_of (by first | rfl | o_shape) (w_eq_bool rfl rfl) rfl
  · exact fun _ => ⟨List.nodup_nil, fun _ h => nomatch h⟩
