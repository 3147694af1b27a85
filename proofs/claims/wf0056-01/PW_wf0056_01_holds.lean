import PyProof.Rows.All
import Wide.All
import OpenK.AllK
import Wide.FinOn
import PySem.Challenge.RW_wf0056_01
open PySem PySem.W PyProof.Rows
set_option Elab.async false
set_option linter.all false
set_option maxRecDepth 100000
set_option maxHeartbeats 8000000

namespace Mine
open PySem.W.X (SegX)

section
variable {prog : Program} {w : World} {A : Around} {c : Code} {fs : List Frame} {P : End → Shared → Prop} {s : Shared} {env : Env}
  {K : Flow → Sem Fin} {H : Value → Sem Fin} {gd : Bool → Bool} {lv : List Value → List Value}

theorem sx_wrap {α : Type} {m : Sem α} {K : α → Sem Fin} {H : Value → Sem Fin} {gd lv}
    (h : wpAny (model prog w) (A.over c fs) m (fun a s' => SegX (model prog w) A c (K a) fs s' P) (fun _ _ => False) s) :
    SegX (model prog w) A c (m.wrap K H gd lv) fs s P := by
  rintro Γ p rfl hΓ
  exact runs_wrap_of_wp (Φ := fun e s' => e.quiet = true ∧ P e s') K H gd lv m (h (Γ.over fs) p (hΓ.over fs)) (fun a p' s' h' => h' Γ p' rfl hΓ) (fun _ _ _ h' => h'.elim)

theorem sx_bind_wrap {α β : Type} {m : Sem α} {K : α → Sem β} {K' : β → Sem Fin} {H' : Value → Sem Fin} {gd lv}
    (h : wpAny (model prog w) (A.over c fs) m (fun a s' => SegX (model prog w) A c ((K a).wrap K' H' gd lv) fs s' P) (fun _ _ => False) s) :
    SegX (model prog w) A c ((m >>= K).wrap K' H' gd lv) fs s P := by
  rw [Sem.bind_eq_wrap', Sem.wrap_wrap]; exact sx_wrap h

theorem sx_at {p' : Pos} {k : Unit → Sem Fin} (h : SegX (model prog w) A c (k ()) fs s P) : SegX (model prog w) A c (.at p' k) fs s P :=
  sx_wrap (m := standAt p') (K := k) (H := .raise) (gd := id) (lv := id) (wpAny_standAt h)
theorem sx_point {l : List Value} {k : Unit → Sem Fin} (h : SegX (model prog w) A c (k ()) fs s P) : SegX (model prog w) A c (.point l k) fs s P :=
  sx_wrap (m := point) (K := k) (H := .raise) (gd := id) (lv := fun _ => l) (wpAny_point h)

theorem sx_execs_nil (h : SegX (model prog w) A c (K .next) fs s P) : SegX (model prog w) A c ((execs [] env).wrap K H gd lv) fs s P := h
theorem sx_execs_cons {st : Stmt} {rest : List Stmt}
    (h : SegX (model prog w) A c ((exec st env).wrap (fun f => match f with | .next => (execs rest env).wrap K H gd lv | f => K f) H gd lv) fs s P) :
    SegX (model prog w) A c ((execs (st :: rest) env).wrap K H gd lv) fs s P := by rw [execs_cons_wrap]; exact h

theorem sx_stmt {st : Stmt} {rest : List Stmt}
    (h : wpAny (model prog w) (A.over c fs) (exec st env) (fun f s' => f = .next ∧ SegX (model prog w) A c ((execs rest env).wrap K H gd lv) fs s' P) (fun _ _ => False) s) :
    SegX (model prog w) A c ((execs (st :: rest) env).wrap K H gd lv) fs s P := by
  refine sx_execs_cons (sx_wrap (wpAny_mono h (fun f s' h' => ?_) fun _ _ e => e))
  obtain ⟨rfl, h'⟩ := h'
  exact h'

theorem sx_If {test : Expr} {body orelse : List Stmt} {pos : Pos}
    (h : wpAny (model prog w) (A.over c fs) (isTrue test env (eval test env)) (fun b s' => if b = true then SegX (model prog w) A c ((execs body env).wrap K H gd lv) fs s' P
      else SegX (model prog w) A c ((execs orelse env).wrap K H gd lv) fs s' P) (fun _ _ => False) s) :
    SegX (model prog w) A c ((exec (.If test body orelse pos) env).wrap K H gd lv) fs s P := by
  rw [exec_If]
  refine sx_bind_wrap (wpAny_standAt ?_)
  refine sx_bind_wrap (wpAny_mono h (fun b s' hb => ?_) fun _ _ e => e)
  cases b
  · exact hb
  · exact hb

/-- what stands on the stack under a for loop of the generator's own body -/
def loopRet (env : Env) (K : Flow → Sem Fin) (H : Value → Sem Fin) (gd : Bool → Bool) (lv : List Value → List Value) : Result → Sem Fin := fun r =>
  ((match r with | .ok f => (.pure f : Sem Flow) | .error e => .raise e).onRaise fun (x : Value) => do
        if (← field x 1) == Value.none then unsupported "frame.own-activation:exception-without-traceback"
        setFlight x env.frame).wrap K H gd lv

theorem sx_For {target iter : Expr} {body orelse : List Stmt} {pos : Pos}
    (h : wpAny (model prog w) (A.over c fs) (eval iter env) (fun x s₁ => wpAny (model prog w) (A.over c fs) (pyIter x) (fun it s₂ =>
      ∀ p, SegX (model prog w) A (.forLoop target it body orelse env) (denote table (.forLoop target it body orelse env)) (.ret (loopRet env K H gd lv) none (gd false) (lv []) c p [] :: fs) s₂ P) (fun _ _ => False) s₁) (fun _ _ => False) s)
    (hs : ∀ x, foldedSetIterable iter env x = pure x := by intro _; rfl) :
    SegX (model prog w) A c ((exec (.For target iter body orelse pos) env).wrap K H gd lv) fs s P := by
  rw [exec_For]
  refine sx_bind_wrap (wpAny_standAt ?_)
  refine sx_bind_wrap (wpAny_mono h (fun x s₁ h₁ => ?_) fun _ _ e => e)
  refine sx_bind_wrap (wpAny_of_eq (hs x) ?_)
  refine sx_bind_wrap (wpAny_standAt ?_)
  refine sx_bind_wrap (wpAny_holding (wpAny_mono h₁ (fun it s₂ h₂ => ?_) fun _ _ e => e))
  exact PySem.W.X.s_call _ _ _ _ _ _ _ _ _ _ _ _ h₂

theorem sx_pop_next {k : Result → Sem Fin} {hd g l} {c₁ : Code} {p₁ : Pos} {kp}
    (h : SegX (model prog w) A c₁ (k (.ok .next)) fs s P) : SegX (model prog w) A c (.pure (.done .next)) (.ret k hd g l c₁ p₁ kp :: fs) s P :=
  PySem.W.X.s_pop _ _ _ _ _ _ s (.ok .next) _ rfl _ _ _ _ _ _ _ h

theorem sx_func {body : List Stmt}
    (h : SegX (model prog w) A (.func body env) ((execs body env).wrap (fun f => .pure (.done (.ret (match f with | .ret v => v | _ => .none))))
      (fun e => (leaving env e).wrap (fun _ => .raise e) .raise id id) id id) fs s P) :
    SegX (model prog w) A (.func body env) (denote table (.func body env)) fs s P := by
  show SegX _ A _ (.point [] fun _ => ((execs body env).onRaise (leaving env)) >>= _) fs s P
  refine sx_point ?_
  rw [Sem.onRaise_eq_wrap, Sem.bind_eq_wrap', Sem.wrap_wrap]
  rw [Sem.wrap_congr (execs body env) _ _ (K' := fun f => .pure (.done (.ret (match f with | .ret v => v | _ => .none))))
    (H' := fun e => (leaving env e).wrap (fun _ => .raise e) .raise id id) (fun f => by cases f <;> rfl)
    (fun e => by rw [Sem.bind_eq_wrap, Sem.wrap_wrap]; rfl)]
  exact h

/-- one turn of a for loop of the generator's own body -/
theorem sx_forLoop {target : Expr} {it : Value} {body orelse : List Stmt}
    (h : wpAny (model prog w) (A.over (.forLoop target it body orelse env) fs) (pyNext it) (fun r s₁ => match r with
      | none => SegX (model prog w) A (.block orelse env) (denote table (.block orelse env)) fs s₁ P
      | some v => wpAny (model prog w) (A.over (.forLoop target it body orelse env) fs) (letOwnedTupleGo target it v) (fun _ s₂ =>
          wpAny (model prog w) (A.over (.forLoop target it body orelse env) fs) (assign target env v) (fun _ s₃ =>
            SegX (model prog w) A (.forLoop target it body orelse env) ((execs body env).wrap (fun f => match f with
              | .next | .cont => .pure (.again (.forLoop target it body orelse env))
              | .brk => .pure (.done .next)
              | .ret v => .pure (.done (.ret v))) (fun e => (do noteFrame e env; theTreesLotGoes e : Sem Unit).wrap (fun _ => .raise e) .raise id id) id id) fs s₃ P) (fun _ _ => False) s₂) (fun _ _ => False) s₁) (fun _ _ => False) s) :
    SegX (model prog w) A (.forLoop target it body orelse env) (denote table (.forLoop target it body orelse env)) fs s P := by
  show SegX _ A _ ((forTurn target it body orelse env).onRaise (fun x => do noteFrame x env; theTreesLotGoes x)) fs s P
  unfold forTurn
  rw [Sem.onRaise_eq_wrap]
  refine sx_bind_wrap (wpAny_standAt ?_)
  refine sx_bind_wrap (wpAny_onRaise (wpAny_mono h (fun r s₁ h₁ => ?_) fun _ _ e => e.elim))
  cases r with
  | none => exact PySem.W.X.s_again _ _ _ _ _ _ _ _ rfl h₁
  | some v =>
    refine sx_bind_wrap (wpAny_mono h₁ (fun _ s₂ h₂ => ?_) fun _ _ e => e)
    refine sx_bind_wrap (wpAny_mono h₂ (fun _ s₃ h₃ => ?_) fun _ _ e => e)
    rw [Sem.bind_eq_wrap', Sem.wrap_wrap]
    rw [Sem.wrap_congr (execs body env) _ _ (K' := fun f => match f with
              | .next | .cont => .pure (.again (.forLoop target it body orelse env))
              | .brk => .pure (.done .next)
              | .ret v => .pure (.done (.ret v))) (H' := (fun e => (do noteFrame e env; theTreesLotGoes e : Sem Unit).wrap (fun _ => .raise e) .raise id id))
        (fun f => by cases f <;> rfl)
        (fun e => by first | exact Sem.bind_eq_wrap _ _ | (show (do noteFrame e env; theTreesLotGoes e : Sem Unit).bind (fun _ => .raise e) = _; rw [Sem.bind_eq_wrap]))]
    exact h₃

theorem sx_block_nil (h : SegX (model prog w) A (.block [] env) (.pure (.done .next)) fs s P) : SegX (model prog w) A (.block [] env) (denote table (.block [] env)) fs s P := by
  exact h

theorem sx_Yield {e : Expr} {ypos pos : Pos} (hfs : splitAtGen fs = none) (hgd : gd false = false) (hfg : fs.any Frame.guarded = false)
    (h : wpAny (model prog w) (A.over c fs) (eval e env) (fun v s' => ∀ l p k, (∀ (P' : End → Shared → Prop) s'', SegX (model prog w) A c (K .next) fs s'' P' → SegX (model prog w) A c (k (.send .none)) fs s'' P') → P (.susp v false l k c p fs) s') (fun _ _ => False) s)
    (hco : env.scope.isCoroutine = false := by rfl) (hi : interactive env = false := by rfl) :
    SegX (model prog w) A c ((exec (.Expr (.Yield (some e) ypos) pos) env).wrap K H gd lv) fs s P := by
  rw [exec_Expr env _ pos hi rfl]
  show SegX _ A _ (.at pos fun _ => ((eval e env >>= fun v => (standAt ypos >>= fun _ => yieldOut env v)) >>= fun x =>
    dropValue (.Yield (some e) ypos) pos x).wrap K H gd lv) fs s P
  have hy : ∀ v, yieldOut env v = yieldValue v := fun v => by simp only [yieldOut, hco, Bool.false_eq_true, if_false]
  simp only [hy]
  refine sx_at ?_
  rw [Sem.bind_eq_wrap', Sem.bind_eq_wrap', Sem.wrap_wrap, Sem.wrap_wrap]
  refine sx_wrap (wpAny_mono h (fun v s' h' => ?_) fun _ _ x => x)
  refine sx_at ?_
  show SegX _ A _ (.yield v (gd false) _ _) fs s' P
  rw [hgd]
  exact PySem.W.X.s_yield _ _ _ _ _ _ _ _ _ _ hfs hfg fun p => h' _ _ _ fun P' s'' x => x
end
end Mine

namespace Mine
abbrev PR : Program := PySem.Challenge.pw_wf0056_01
def fnArgs (i : Nat) : Arguments := match PR.main.body[i]? with | some (.FunctionDef _ a _ _ _ _ _ _ _ _) => a | _ => default
def fnBody (i : Nat) : List Stmt := match PR.main.body[i]? with | some (.FunctionDef _ _ b _ _ _ _ _ _ _) => b | _ => []
def fnScope (i : Nat) : Scope := match PR.main.body[i]? with | some (.FunctionDef _ _ _ _ _ _ sc _ _ _) => sc | _ => default
abbrev Ext (h h' : Heap) : Prop := ∀ b o, h.get? b = some o → h'.get? b = some o

def gtab : List (Str × Value) := [(Str.ofString "_iter_escaped_chars", .ref 28), (Str.ofString "_strip_quoted_realnames", .ref 35), (Str.ofString "_check_parenthesis", .ref 42),
  (Str.ofString "_Accumulator", .ref 122), (Str.ofString "EXACT_TOKEN_TYPES", .ref 127), (Str.ofString "ISTERMINAL", .ref 136), (Str.ofString "ISEOF", .ref 143), (Str.ofString "_law_closes", .ref 150),
  (Str.ofString "_law_searched", .ref 157), (Str.ofString "_law_drawn", .ref 164), (Str.ofString "_law_worth", .ref 169), (Str.ofString "_law_due", .ref 176)]
def bnames : List Str := [Str.ofString "enumerate", Str.ofString "list", Str.ofString "len", Str.ofString "int", Str.ofString "ord", Str.ofString "chr", Str.ofString "max", Str.ofString "min", Str.ofString "isinstance", Str.ofString "range", Str.ofString "super"]
def bvals : List (Str × Value) := [(Str.ofString "enumerate", .type "enumerate"), (Str.ofString "list", .type "list"), (Str.ofString "len", .builtin "len"), (Str.ofString "int", .type "int"), (Str.ofString "ord", .builtin "ord"), (Str.ofString "chr", .builtin "chr"),
  (Str.ofString "max", .builtin "max"), (Str.ofString "min", .builtin "min"), (Str.ofString "isinstance", .builtin "isinstance"), (Str.ofString "range", .type "range"), (Str.ofString "super", .type "super")]
theorem bvals_ok : ∀ p ∈ bvals, bootBuiltins p.1 = some p.2 := by
  intro p hp
  simp only [bvals, List.mem_cons, List.not_mem_nil, or_false] at hp
  rcases hp with rfl | rfl | rfl | rfl | rfl | rfl | rfl | rfl | rfl | rfl | rfl
  all_goals decide +kernel

def FnAt (h : Heap) (a : Addr) (name : Str) (i : Nat) : Prop :=
  ∃ o pm cd, h.get? a = some o ∧ o.data = .func (Calls.docDef name (fnArgs i) (fnBody i) (fnScope i) pm cd .none) ∧ h.CodeRec cd name
theorem FnAt.keeps {h h' : Heap} {a : Addr} {name : Str} {i : Nat} (x : FnAt h a name i) (k : Ext h h') : FnAt h' a name i :=
  let ⟨o, pm, cd, h1, h2, h3⟩ := x; ⟨o, pm, cd, k _ _ h1, h2, h3.keeps k⟩

def fns : List (Addr × Str × Nat) := [(28, Str.ofString "_iter_escaped_chars", 2), (35, Str.ofString "_strip_quoted_realnames", 3), (42, Str.ofString "_check_parenthesis", 4), (136, Str.ofString "ISTERMINAL", 60), (143, Str.ofString "ISEOF", 61),
  (150, Str.ofString "_law_closes", 63), (157, Str.ofString "_law_searched", 64), (164, Str.ofString "_law_drawn", 65), (169, Str.ofString "_law_worth", 66), (176, Str.ofString "_law_due", 67), (181, Str.ofString "law", 68)]

structure GC (mg mb : Str → Option Value) (h : Heap) : Prop where
  g : h.Ns mainGlobals mg
  b : h.Ns builtinsNs mb
  lim : h.NoLimit
  dig : ∃ mc, h.Ns cStatics mc ∧ mc (Str.ofString "sys.int_max_str_digits") = none
  tab : ∀ p ∈ gtab, mg p.1 = some p.2
  bt : ∀ p ∈ bvals, mg p.1 = none ∧ mb p.1 = some p.2
  fn : ∀ p ∈ fns, FnAt h p.1 p.2.1 p.2.2
  nt : ∃ t, mg (Str.ofString "NT_OFFSET") = some (.int 256 t)
  em : ∃ t, mg (Str.ofString "ENDMARKER") = some (.int 0 t)
theorem GC.keeps {mg mb : Str → Option Value} {h h' : Heap} (G : GC mg mb h) (k : Ext h h') : GC mg mb h' :=
  ⟨G.g.keeps k, G.b.keeps k, G.lim.keeps k, let ⟨mc, a, b⟩ := G.dig; ⟨mc, a.keeps k, b⟩, G.tab, G.bt, fun p hp => (G.fn p hp).keeps k, G.nt, G.em⟩
end Mine

namespace Mine
open PySem.W.X (SegX)
def forParts : Stmt → Expr × List Stmt := fun s => match s with | .For t _ b _ _ => (t, b) | _ => (default, [])

abbrev U := Int × Str
/-- the units of a text, from its i-th sign on -/
def unitsF : Nat → Bool → List Nat → List U
  | _, false, [] => []
  | i, true, [] => [((i : Int) - 1, ⟨#[92]⟩)]
  | i, true, c :: r => ((i : Int), ⟨#[92, c]⟩) :: unitsF (i + 1) false r
  | i, false, c :: r => if c = 92 then unitsF (i + 1) true r else ((i : Int), ⟨#[c]⟩) :: unitsF (i + 1) false r

def Agree (F : List Addr) (h h' : Heap) : Prop := ∀ b ∈ F, ∀ o, h.get? b = some o → h'.get? b = some o
theorem Agree.refl (F : List Addr) (h : Heap) : Agree F h h := fun _ _ _ e => e
def IsUnit (h : Heap) (v : Value) (u : U) : Prop := ∃ a t1 t2, v = .ref a ∧ h.get? a = some { cls := .type "tuple", data := .seq #[.int u.1 t1, .str u.2 t2] }
theorem IsUnit.keeps {h h' : Heap} {v : Value} {u : U} (x : IsUnit h v u) (k : ∀ b o, h.get? b = some o → h'.get? b = some o) : IsUnit h' v u :=
  let ⟨a, t1, t2, e, ho⟩ := x; ⟨a, t1, t2, e, k _ _ ho⟩

structure Since (F : List Addr) (s₀ s : Shared) : Prop where
  heap : ∀ b o, b ∉ F → s₀.heap.get? b = some o → s.heap.get? b = some o
  gens : s.gens = s₀.gens
  os : s.os = s₀.os
theorem Since.refl (F : List Addr) (s : Shared) : Since F s s := ⟨fun _ _ _ e => e, rfl, rfl⟩
theorem Since.mono {F F' : List Addr} {s₀ s : Shared} (x : Since F s₀ s) (h : ∀ b ∈ F, b ∈ F' ∨ s₀.heap.get? b = none) : Since F' s₀ s :=
  ⟨fun b o hb e => x.heap b o (fun hm => (h b hm).elim hb fun q => by rw [q] at e; cases e) e, x.gens, x.os⟩
theorem Since.step {F : List Addr} {s₀ s : Shared} (x : Since F s₀ s) {h' : Heap} {tk : Nat} (hk : ∀ b o, b ∉ F → s.heap.get? b = some o → h'.get? b = some o) :
    Since F s₀ { s with heap := h', toks := tk } := ⟨fun b o hb e => hk b o hb (x.heap b o hb e), x.gens, x.os⟩

def startOf : GenState → Option (Code × Sem Fin × List Frame)
  | .fresh c => some (c, denote table c, [])
  | .suspended k _ c _ fs _ => some (c, k (.send .none), fs)
  | _ => none

def Will (w : World) (A : Around) (B : Heap) : List U → GenState → List Addr → Heap → Prop
  | [], gs, F, h => ∃ c t fs, startOf gs = some (c, t, fs) ∧ ∀ s₀ : Shared, Agree F h s₀.heap → Ext B s₀.heap →
      SegX (model PR w) A c t fs s₀ (fun e s₁ => e = .ret (.ok (.ret .none)) ∧ Since F s₀ s₁)
  | u :: us, gs, F, h => ∃ c t fs, startOf gs = some (c, t, fs) ∧ ∀ s₀ : Shared, Agree F h s₀.heap → Ext B s₀.heap →
      SegX (model PR w) A c t fs s₀ (fun e s₁ => ∃ v l k c' p fs' F', e = .susp v false l k c' p fs' ∧ (IsUnit s₁.heap v u ∧ ∀ ta, v = .ref ta → ta ∉ F') ∧ Since F s₀ s₁ ∧
        (∀ b ∈ F', b ∈ F ∨ s₀.heap.get? b = none) ∧ Will w A B us (.suspended k l c' p fs' false) F' s₁.heap)
/-- what one waking gives, where us is still to come -/
def Gives (w : World) (A : Around) (B : Heap) (us : List U) (F : List Addr) (s₀ : Shared) : End → Shared → Prop := match us with
  | [] => fun e s₁ => e = .ret (.ok (.ret .none)) ∧ Since F s₀ s₁
  | u :: us => fun e s₁ => ∃ v l k c' p fs' F', e = .susp v false l k c' p fs' ∧ (IsUnit s₁.heap v u ∧ ∀ ta, v = .ref ta → ta ∉ F') ∧ Since F s₀ s₁ ∧
        (∀ b ∈ F', b ∈ F ∨ s₀.heap.get? b = none) ∧ Will w A B us (.suspended k l c' p fs' false) F' s₁.heap
theorem Will.iff {w : World} {A : Around} {B : Heap} {us : List U} {gs : GenState} {F : List Addr} {h : Heap} : Will w A B us gs F h ↔ ∃ c t fs, startOf gs = some (c, t, fs) ∧ ∀ s₀ : Shared, Agree F h s₀.heap → Ext B s₀.heap →
      SegX (model PR w) A c t fs s₀ (Gives w A B us F s₀) := by
  cases us <;> exact Iff.rfl
theorem Will.frame {w : World} {A : Around} {B : Heap} {us : List U} {gs : GenState} {F : List Addr} {h h' : Heap} (x : Will w A B us gs F h) (ha : Agree F h h') : Will w A B us gs F h' := by
  rw [Will.iff] at x ⊢
  obtain ⟨c, t, fs, e, H⟩ := x
  exact ⟨c, t, fs, e, fun s₀ h1 => H s₀ (fun b hb o q => h1 b hb o (ha b hb o q))⟩

theorem draws_strU {w : World} {A : Around} (hh : A.handled = none) (it : Addr) (x : Str) (t : Tok) :
    Draws PR w A it [it] x.cps.size (fun i v => ∃ c u, x.cps[i]? = some c ∧ v = .str ⟨#[c]⟩ u) (fun i h => h.IsStrIter it (strIterType x) x t i) := by
  unfold strIterType
  cases x.cps.all (· < 128)
  · exact Draws.strWide hh it x t
  · exact Draws.strAscii hh it x t

/-- the generator's own things, at its i-th sign -/
structure GJ (C e it : Addr) (x : Str) (t : Tok) (i : Nat) (esc : Bool) (h : Heap) : Prop where
  ns : ∃ m p tk, h.Ns C m ∧ m (Str.ofString "escape") = some (.bool esc) ∧ m (Str.ofString "pos") = some (.int p tk) ∧ (esc = true → p = (i : Int) - 1)
  en : ∃ old, IsEnum h e it i old
  si : h.IsStrIter it (strIterType x) x t i
theorem GJ.agree {C e it : Addr} {x : Str} {t : Tok} {i : Nat} {esc : Bool} {h h' : Heap} (j : GJ C e it x t i esc h) (a : Agree [C, e, it] h h') : GJ C e it x t i esc h' :=
  ⟨let ⟨m, p, tk, n, r⟩ := j.ns; ⟨m, p, tk, n.at' fun o q => a _ (by simp) o q, r⟩, let ⟨old, q⟩ := j.en; ⟨old, a _ (by simp) _ q⟩, let ⟨o, q, r⟩ := j.si; ⟨o, a _ (by simp) _ q, r⟩⟩

abbrev genEnv' (C a : Addr) (cd : Value) : Env := envOf (Str.ofString "_iter_escaped_chars") (fnScope 2) C a cd
def gTarget : Expr := (forParts ((fnBody 2).getD 2 (.Pass default))).1
def gLoop : List Stmt := (forParts ((fnBody 2).getD 2 (.Pass default))).2
def gTail : List Stmt := (fnBody 2).drop 3

section
variable {w : World} {A : Around} {B : Heap}

/-- after the for loop of the generator: the lone backslash -/
theorem gen_tail {C e it a : Addr} {cd : Value} {esc : Bool} {n : Nat} {s₀ s : Shared} {H : Value → Sem Fin} {c : Code} {m : Str → Option Value} {p : Int} {tk : Tok}
    (hn : s.heap.Ns C m) (hme : m (Str.ofString "escape") = some (.bool esc)) (hmp : m (Str.ofString "pos") = some (.int p tk)) (hp : esc = true → p = (n : Int) - 1) (hs : Since [C, e, it] s₀ s) :
    SegX (model PR w) A c ((execs gTail (genEnv' C a cd)).wrap (fun f => .pure (.done (.ret (match f with | .ret v => v | _ => .none)))) H id id) [] s (Gives w A B (unitsF n esc []) [C, e, it] s₀) := by
  refine sx_execs_cons (sx_If ?_)
  refine wpAny_isTrue_value (wpAny_Name (wpAny_loadName_local rfl rfl hn hme (wpAny_truthy_bool ?_)))
  cases esc with
  | false =>
    simp only [Bool.false_eq_true, if_false]
    refine sx_execs_nil ?_
    refine sx_execs_nil ?_
    exact PySem.W.X.s_end _ _ _ _ _ _ (.ok (.ret .none)) _ rfl ⟨rfl, hs⟩
  | true =>
    simp only [if_true]
    refine sx_execs_cons (sx_Yield rfl rfl rfl ?_)
    refine wpAny_Tuple (spliced_more (wpAny_Name (wpAny_loadName_local rfl rfl hn hmp (spliced_more (wpAny_Constant_str (spliced_none ⟨Nat.le_of_ble_eq_true rfl, ?_⟩))))))
    intro l pp k hk
    refine ⟨_, l, k, c, pp, [], [], rfl, ⟨⟨_, tk, s.toks, rfl, ?_⟩, fun _ _ h => (by cases h)⟩, hs.step (fun b o _ q => Heap.get?_push_of_some _ q), fun b hb => (by cases hb), ?_⟩
    · rw [hp rfl]
      exact Heap.get?_push_size _ rfl
    · refine Will.iff.mpr ⟨_, _, _, rfl, fun s₂ hag hB => hk _ _ ?_⟩
      refine sx_execs_nil ?_
      refine sx_execs_nil ?_
      exact PySem.W.X.s_end _ _ _ _ _ _ (.ok (.ret .none)) _ rfl ⟨rfl, Since.refl _ _⟩

abbrev gK (C a : Addr) (cd : Value) (H : Value → Sem Fin) : Flow → Sem Fin := fun f => match f with
  | .next => (execs gTail (genEnv' C a cd)).wrap (fun f => .pure (.done (.ret (match f with | .ret v => v | _ => .none)))) H id id
  | f => .pure (.done (.ret (match f with | .ret v => v | _ => .none)))

theorem gen_loop (hh : A.handled = none) {C e it a : Addr} {cd : Value} {x : Str} {t : Tok} {H : Value → Sem Fin} {c : Code} 
    (hCe : C ≠ e) (hCi : C ≠ it) (hei : e ≠ it) : ∀ (n i : Nat) (esc : Bool) (s₀ s : Shared), x.cps.size - i = n → i ≤ x.cps.size → GJ C e it x t i esc s.heap → Since [C, e, it] s₀ s → ∀ p,
    SegX (model PR w) A (.forLoop gTarget (.ref e) gLoop [] (genEnv' C a cd)) (denote table (.forLoop gTarget (.ref e) gLoop [] (genEnv' C a cd)))
      [.ret (loopRet (genEnv' C a cd) (gK C a cd H) H id id) none false [] c p []] s (Gives w A B (unitsF i esc (x.cps.toList.drop i)) [C, e, it] s₀) := by
  intro n
  induction n with
  | zero =>
    intro i esc s₀ s hn hi j hs p
    have hin : i = x.cps.size := by omega
    subst hin
    obtain ⟨old, he⟩ := j.en
    refine sx_forLoop (wpAny_pyNext_enum_endD (draws_strU (by exact hh) it x t) he j.si fun h' hx => ?_)
    refine sx_block_nil (sx_pop_next ?_)
    have hd : List.drop x.cps.size x.cps.toList = [] := by simp
    rw [hd]
    obtain ⟨m, p', tk, hn', hme, hmp, hp⟩ := j.ns
    refine gen_tail (e := e) (it := it) (hn'.at' fun o q => hx _ o hCi q) hme hmp hp (hs.step fun b o hb q => hx b o (fun z => hb (by simp [z])) q)
  | succ n ih =>
    intro i esc s₀ s hn hi j hs p
    have hlt' : i < x.cps.size := by omega
    obtain ⟨old, he⟩ := j.en
    refine sx_forLoop (wpAny_pyNext_enum_itemD (draws_strU (by exact hh) it x t) he j.si hlt' hei (by simpa using hei) fun v h₁ tk₁ hv heo hsi hT hsz hk => ?_)
    obtain ⟨ch, tc, hch, rfl⟩ := hv
    have hd : x.cps.toList.drop i = ch :: x.cps.toList.drop (i + 1) := by
      rw [List.drop_eq_getElem_cons (by simpa using hlt')]
      congr 1
      obtain ⟨_, q⟩ := Array.getElem?_eq_some_iff.mp hch
      simpa using q
    rw [hd]
    refine wpAny_letOwnedTupleGo_enum heo fun h₂ he₂ hs₂ => ?_
    replace hs₂ : Heap.SameBut e h₁ h₂ := hs₂
    have hel := Heap.lt_size he
    have hTl : s.heap.objs.size ≠ e := Nat.ne_of_gt hel
    have ht₂ : h₂.IsTuple s.heap.objs.size #[.int i tk₁, .str ⟨#[ch]⟩ tc] := ⟨_, (hs₂.2 _ hTl).trans hT, rfl, _, rfl⟩
    refine wpAny_assign_Tuple (by exact hh) ht₂ rfl rfl fun h₃ hx₃ => ?_
    replace hx₃ : Heap.ExtBut h₂.objs.size h₂ h₃ := hx₃
    have hz₂ : h₂.objs.size = s.heap.objs.size + 1 := hs₂.1.trans hsz
    have old₃ : ∀ b o, b < s.heap.objs.size → h₂.get? b = some o → h₃.get? b = some o := fun b o hb q => hx₃ b o (by rw [hz₂]; exact Nat.ne_of_lt (Nat.lt_succ_of_lt hb)) q
    have up₃ : ∀ b o, b ≠ e → b ≠ it → s.heap.get? b = some o → h₃.get? b = some o := fun b o h1 h2 q => old₃ b o (Heap.lt_size q) ((hs₂.2 b h1).trans (hk b o h1 h2 q))
    obtain ⟨m, p', tk, hn', hme, hmp, hp⟩ := j.ns
    have hn₃ : h₃.Ns C m := hn'.at' fun o q => up₃ C o hCe hCi q
    have he₃ := old₃ e _ hel he₂
    have hil : it < s.heap.objs.size := let ⟨_, q, _⟩ := j.si; Heap.lt_size q
    have hsi₃ : h₃.IsStrIter it (strIterType x) x t (i + 1) := let ⟨o, q, r⟩ := hsi; ⟨o, old₃ _ _ hil ((hs₂.2 _ (Ne.symm hei)).trans q), r⟩
    show wpAny _ _ (do holding [_] (assign (.Name (Str.ofString "pos") _) (genEnv' C a cd) (.int i tk₁)); do holding [] (assign (.Name (Str.ofString "ch") _) (genEnv' C a cd) (.str ⟨#[ch]⟩ tc)); pure ()) _ _ _
    refine wpAny_bind (wpAny_holding (wpAny_assign_Name (wpAny_storeName_local rfl hn₃ (fun h₄ hn₄ hs₄ => ?_) rfl)))
    replace hs₄ : Heap.SameBut C h₃ h₄ := hs₄
    refine wpAny_bind (wpAny_holding (wpAny_assign_Name (wpAny_storeName_local rfl hn₄ (fun h₅ hn₅ hs₅ => wpAny_pure ?_) rfl)))
    replace hs₅ : Heap.SameBut C h₄ h₅ := hs₅
    have he₅ := (hs₅.2 e (Ne.symm hCe)).trans ((hs₄.2 e (Ne.symm hCe)).trans he₃)
    have hsi₅ : h₅.IsStrIter it (strIterType x) x t (i + 1) := let ⟨o, q, r⟩ := hsi₃; ⟨o, (hs₅.2 _ (Ne.symm hCi)).trans ((hs₄.2 _ (Ne.symm hCi)).trans q), r⟩
    have hs5 : Since [C, e, it] s₀ { s with heap := h₅, toks := tk₁ + 1 + 1 + 1 } := hs.step fun b o hb q => by
      have n1 : b ≠ C := fun z => hb (by simp [z])
      have n2 : b ≠ e := fun z => hb (by simp [z])
      have n3 : b ≠ it := fun z => hb (by simp [z])
      exact (hs₅.2 b n1).trans ((hs₄.2 b n1).trans (up₃ b o n2 n3 q))
    clear hs₄ hs₅ hn₄ hsi₃ he₃ hn₃ up₃ old₃ hx₃ ht₂ hs₂ he₂ heo hT hk hsi he
    have ap5 : ∀ ta, (Value.ref h₅.objs.size) = .ref ta → ta ∉ [C, e, it] := fun ta z hm => by
      cases z
      simp only [List.mem_cons, List.not_mem_nil, or_false] at hm
      rcases hm with z | z | z
      · have := hn₅.lt; rw [← z] at this; exact absurd this (Nat.lt_irrefl _)
      · have := Heap.lt_size he₅; rw [← z] at this; exact absurd this (Nat.lt_irrefl _)
      · obtain ⟨_, q, _⟩ := hsi₅; have := Heap.lt_size q; rw [← z] at this; exact absurd this (Nat.lt_irrefl _)
    generalize hM : (fun y => if y = Str.ofString "ch" then some (Value.str ⟨#[ch]⟩ tc) else if y = Str.ofString "pos" then some (Value.int (↑i) tk₁) else m y) = M at hn₅
    have hMe : M (Str.ofString "escape") = some (.bool esc) := by subst hM; show (if _ then _ else _) = _; rw [if_neg (by decide), if_neg (by decide)]; exact hme
    have hMp : M (Str.ofString "pos") = some (.int (↑i) tk₁) := by subst hM; show (if _ then _ else _) = _; rw [if_neg (by decide), if_pos rfl]
    have hMc : M (Str.ofString "ch") = some (.str ⟨#[ch]⟩ tc) := by subst hM; show (if _ then _ else _) = _; rw [if_pos rfl]
    clear hM
    refine sx_execs_cons (sx_If ?_)
    refine wpAny_isTrue_value (wpAny_Name (wpAny_loadName_local rfl rfl hn₅ hMe (wpAny_truthy_bool ?_)))
    cases esc with
    | true =>
      simp only [if_true]
      refine sx_execs_cons (sx_Yield rfl rfl rfl ?_)
      refine wpAny_Tuple (spliced_more (wpAny_Name (wpAny_loadName_local rfl rfl hn₅ hMp (spliced_more (wpAny_BinOp (wpAny_Constant_str (wpAny_Name (wpAny_loadName_local rfl rfl hn₅ hMc (add_str (fun t6 tk6 => spliced_none ⟨Nat.le_of_ble_eq_true rfl, ?_⟩) (Nat.le_of_ble_eq_true rfl))))))))))
      intro l pp k hk
      refine ⟨_, l, k, _, pp, _, [C, e, it], rfl, ⟨⟨_, tk₁, t6, rfl, Heap.get?_push_size _ rfl⟩, ap5⟩, hs5.step (fun b o _ q => Heap.get?_push_of_some _ q), fun b hb => .inl hb, ?_⟩
      refine Will.iff.mpr ⟨_, _, _, rfl, fun s₂ hag hB => hk _ _ ?_⟩
      have ag : Agree [C, e, it] h₅ s₂.heap := fun b hb o q => hag b hb o (Heap.get?_push_of_some _ q)
      refine sx_stmt (wpAny_Assign_Name (wpAny_Constant_bool (wpAny_storeName_local rfl (hn₅.at' fun o q => ag C (by simp) o q) (fun h₇ hn₇ hs₇ => ⟨rfl, ?_⟩) rfl)))
      replace hs₇ : Heap.SameBut C s₂.heap h₇ := hs₇
      refine sx_execs_nil ?_
      refine sx_execs_nil ?_
      refine PySem.W.X.s_again _ _ _ _ _ _ _ _ rfl ?_
      refine ih (i + 1) false s₂ _ (by omega) hlt' ⟨⟨_, (i : Int), tk₁, hn₇, by simp, ?_, fun z => by cases z⟩, ⟨.str ⟨#[ch]⟩ tc, ?_⟩, ?_⟩ (Since.refl _ _ |>.step fun b o hb q => (hs₇.2 b fun z => hb (by simp [z])).trans q) _
      · show (if _ then _ else _) = _; rw [if_neg (by decide)]; exact hMp
      · have := (hs₇.2 e (Ne.symm hCe)).trans (ag e (by simp) _ he₅); push_cast; exact this
      · exact let ⟨o, q, r⟩ := hsi₅; ⟨o, (hs₇.2 it (Ne.symm hCi)).trans (ag it (by simp) _ q), r⟩
    | false =>
      simp only [Bool.false_eq_true, if_false]
      refine sx_execs_cons (sx_If ?_)
      refine wpAny_isTrue_Compare1 (wpAny_Name (wpAny_loadName_local rfl rfl hn₅ hMc (wpAny_Constant_str (eq_str (wpAny_truthy_bool ?_)))))
      by_cases h92 : ch = 92
      · subst h92
        rw [show ((⟨#[92]⟩ : Str) == Str.ofString "\\") = true by decide]
        simp only [if_true]
        refine sx_stmt (wpAny_Assign_Name (wpAny_Constant_bool (wpAny_storeName_local rfl hn₅ (fun h₇ hn₇ hs₇ => ⟨rfl, ?_⟩) rfl)))
        replace hs₇ : Heap.SameBut C h₅ h₇ := hs₇
        refine sx_execs_nil ?_
        refine sx_execs_nil ?_
        refine sx_execs_nil ?_
        refine PySem.W.X.s_again _ _ _ _ _ _ _ _ rfl ?_
        have hu : unitsF i false (92 :: x.cps.toList.drop (i + 1)) = unitsF (i + 1) true (x.cps.toList.drop (i + 1)) := by rw [unitsF]; simp
        rw [hu]
        refine ih (i + 1) true s₀ _ (by omega) hlt' ⟨⟨_, (i : Int), tk₁, hn₇, by simp, ?_, fun z => by push_cast; omega⟩, ⟨.str ⟨#[92]⟩ tc, ?_⟩, ?_⟩ (hs5.step fun b o hb q => (hs₇.2 b fun z => hb (by simp [z])).trans q) _
        · show (if _ then _ else _) = _; rw [if_neg (by decide)]; exact hMp
        · have := (hs₇.2 e (Ne.symm hCe)).trans he₅; push_cast; exact this
        · exact let ⟨o, q, r⟩ := hsi₅; ⟨o, (hs₇.2 it (Ne.symm hCi)).trans q, r⟩
      · have hne : ((⟨#[ch]⟩ : Str) == Str.ofString "\\") = false := by
          rw [beq_eq_false_iff_ne]; intro q
          have : (#[ch] : Array Nat) = #[92] := congrArg Str.cps q
          simp at this; exact h92 this
        rw [hne]
        simp only [Bool.false_eq_true, if_false]
        have hu : unitsF i false (ch :: x.cps.toList.drop (i + 1)) = ((i : Int), ⟨#[ch]⟩) :: unitsF (i + 1) false (x.cps.toList.drop (i + 1)) := by rw [unitsF]; simp [h92]
        rw [hu]
        refine sx_execs_cons (sx_Yield rfl rfl rfl ?_)
        refine wpAny_Tuple (spliced_more (wpAny_Name (wpAny_loadName_local rfl rfl hn₅ hMp (spliced_more (wpAny_Name (wpAny_loadName_local rfl rfl hn₅ hMc (spliced_none ⟨Nat.le_of_ble_eq_true rfl, ?_⟩)))))))
        intro l pp k hk
        refine ⟨_, l, k, _, pp, _, [C, e, it], rfl, ⟨⟨_, tk₁, tc, rfl, Heap.get?_push_size _ rfl⟩, ap5⟩, hs5.step (fun b o _ q => Heap.get?_push_of_some _ q), fun b hb => .inl hb, ?_⟩
        refine Will.iff.mpr ⟨_, _, _, rfl, fun s₂ hag hB => hk _ _ ?_⟩
        have ag : Agree [C, e, it] h₅ s₂.heap := fun b hb o q => hag b hb o (Heap.get?_push_of_some _ q)
        refine sx_execs_nil ?_
        refine sx_execs_nil ?_
        refine sx_execs_nil ?_
        refine PySem.W.X.s_again _ _ _ _ _ _ _ _ rfl ?_
        refine ih (i + 1) false s₂ s₂ (by omega) hlt' ⟨⟨M, (i : Int), tk₁, hn₅.at' fun o q => ag C (by simp) o q, hMe, hMp, fun z => by cases z⟩, ⟨.str ⟨#[ch]⟩ tc, ?_⟩, ?_⟩ (Since.refl _ _) _
        · have := ag e (by simp) _ he₅; push_cast; exact this
        · exact let ⟨o, q, r⟩ := hsi₅; ⟨o, ag it (by simp) _ q, r⟩
end
end Mine

namespace Mine
open PySem.W.X (SegX)
section
variable {w : World} {A : Around} {B : Heap} {mg mb : Str → Option Value}

theorem Gives.mono {us : List U} {F F' : List Addr} {s₀ s₁ : Shared} {e : End} (x : Gives w A B us F s₀ e s₁) (h : ∀ b ∈ F, b ∈ F' ∨ s₀.heap.get? b = none) : Gives w A B us F' s₀ e s₁ := by
  cases us with
  | nil => exact ⟨x.1, x.2.mono h⟩
  | cons u us =>
    obtain ⟨v, l, k, c', p, fs', F₁, h1, h2, h3, h4, h5⟩ := x
    exact ⟨v, l, k, c', p, fs', F₁, h1, h2, h3.mono h, fun b hb => (h4 b hb).elim (h b) .inr, h5⟩

/-- a name of the builtins, read in a function's frame -/
theorem ev_bname {M : Model} {E : Value → Shared → Prop} {s : Shared} {nm : Str} {sc : Scope} {L a : Addr} {cd : Value} {x : Str} {pos : Pos} {v : Value} {Q : Value → Shared → Prop} (G : GC mg mb s.heap) (hp : (x, v) ∈ bvals) (h : Q v s)
    (hk : sc.kind = .function := by rfl) (hx : (envOf nm sc L a cd).kindOf x = some .globalImplicit := by rfl) (hd : (x == ("__debug__" : Str)) = false := by decide) :
    wpAny M A (eval (.Name x pos) (envOf nm sc L a cd)) Q E s :=
  Calls.Name_function_global hk hx (Calls.loadGlobal_builtin (env := envOf nm sc L a cd) G.g (G.bt _ hp).1 G.b (G.bt _ hp).2 h) hd
theorem ev_gname {M : Model} {E : Value → Shared → Prop} {s : Shared} {nm : Str} {sc : Scope} {L a : Addr} {cd : Value} {x : Str} {pos : Pos} {v : Value} {Q : Value → Shared → Prop} (G : GC mg mb s.heap) (hp : (x, v) ∈ gtab) (h : Q v s)
    (hk : sc.kind = .function := by rfl) (hx : (envOf nm sc L a cd).kindOf x = some .globalImplicit := by rfl) (hd : (x == ("__debug__" : Str)) = false := by decide) :
    wpAny M A (eval (.Name x pos) (envOf nm sc L a cd)) Q E s :=
  Calls.Name_function_global hk hx (Calls.loadGlobal_global (env := envOf nm sc L a cd) G.g (G.tab _ hp) h) hd

theorem gen_start (hh : A.handled = none) (G : GC mg mb B) {C a : Addr} {cd : Value} {m : Str → Option Value} {x : Str} {t : Tok} {h : Heap} (hn : h.Ns C m) (hm : m (Str.ofString "addr") = some (.str x t)) (hCB : B.get? C = none) :
    Will w A B (unitsF 0 false x.cps.toList) (.fresh (.func (fnBody 2) (genEnv' C a cd))) [C] h := by
  refine Will.iff.mpr ⟨_, _, _, rfl, fun s₀ ag ext => sx_func ?_⟩
  have hn₀ : s₀.heap.Ns C m := hn.at' fun o q => ag C (by simp) o q
  refine sx_stmt (wpAny_Assign_Name (wpAny_Constant_int (wpAny_storeName_local rfl hn₀ (fun h₁ hn₁ hs₁ => ⟨rfl, ?_⟩) rfl)))
  replace hs₁ : Heap.SameBut C s₀.heap h₁ := hs₁
  refine sx_stmt (wpAny_Assign_Name (wpAny_Constant_bool (wpAny_storeName_local rfl hn₁ (fun h₂ hn₂ hs₂ => ⟨rfl, ?_⟩) rfl)))
  replace hs₂ : Heap.SameBut C h₁ h₂ := hs₂
  have k₂ : ∀ b o, b ≠ C → s₀.heap.get? b = some o → h₂.get? b = some o := fun b o hb q => (hs₂.2 b hb).trans ((hs₁.2 b hb).trans q)
  have G₂ : GC mg mb h₂ := G.keeps fun b o q => k₂ b o (fun z => by rw [z, hCB] at q; cases q) (ext b o q)
  have hsz : h₂.objs.size = s₀.heap.objs.size := hs₂.1.trans hs₁.1
  have hma : (fun y => if y = Str.ofString "escape" then some (Value.bool false) else if y = Str.ofString "pos" then some (Value.int 0 s₀.toks) else m y) (Str.ofString "addr") = some (.str x t) := by
    show (if _ then _ else _) = _; rw [if_neg (by decide), if_neg (by decide)]; exact hm
  have hCl : C < h₂.objs.size := hn₂.lt
  refine sx_execs_cons (sx_For (wpAny_Call_NameR (ev_bname G₂ (by simp [bvals]) (callWith_type1 (spliced_more (wpAny_Name (wpAny_loadName_local rfl rfl hn₂ hma (spliced_none (call_enumerate_str fun h₃ he hit hz hk => ?_)))))))))
  refine wpAny_pyIter_enum he fun p => ?_
  have hCe : C ≠ h₂.objs.size + 1 := Nat.ne_of_lt (Nat.lt_succ_of_lt hCl)
  have hCi : C ≠ h₂.objs.size := Nat.ne_of_lt hCl
  have fresh : ∀ b, s₀.heap.objs.size ≤ b → s₀.heap.get? b = none := fun b hb => by
    cases q : s₀.heap.get? b with
    | none => rfl
    | some o => exact absurd (Heap.lt_size q) (Nat.not_lt.mpr hb)
  have L := gen_loop (w := w) (B := B) hh (a := a) (cd := cd) (x := x) (t := t) (c := .func (fnBody 2) (genEnv' C a cd)) (H := fun e => (leaving (genEnv' C a cd) e).wrap (fun _ => .raise e) .raise id id) hCe hCi (Nat.succ_ne_self _) (x.cps.size - 0) 0 false s₀ { s₀ with heap := h₃, toks := s₀.toks + 1 + 1 + 1 } rfl (Nat.zero_le _)
    ⟨⟨_, 0, s₀.toks, hn₂.keeps hk, by simp, by (show (if _ then _ else _) = _); rw [if_neg (by decide), if_pos rfl], fun z => by cases z⟩, ⟨_, he⟩, hit⟩
    (Since.refl _ _ |>.step fun b o hb q => hk b o (k₂ b o (fun z => hb (by simp [z])) q)) p
  rw [List.drop_zero] at L
  exact L.mono fun e s₁ g => g.mono fun b hb => by
    simp only [List.mem_cons, List.not_mem_nil, or_false] at hb
    rcases hb with rfl | rfl | rfl
    · exact .inl (by simp)
    · exact .inr (fresh _ (by rw [hsz]; omega))
    · exact .inr (fresh _ (by rw [hsz]; omega))

structure GA (w : World) (A : Around) (B : Heap) (a g : Nat) (F : List Addr) (us : List U) (s : Shared) : Prop where
  gen : s.heap.IsGen a g
  will : ∃ gs, s.gens[g]? = some gs ∧ Will w A B us gs F s.heap
  aF : a ∉ F
  FB : ∀ b ∈ F, B.get? b = none
theorem GA.frame {a g : Nat} {F : List Addr} {us : List U} {s s' : Shared} (x : GA w A B a g F us s) (hg : s'.gens = s.gens) (ha : ∀ o, s.heap.get? a = some o → s'.heap.get? a = some o) (hF : Agree F s.heap s'.heap) : GA w A B a g F us s' :=
  ⟨let ⟨o, nm, qn, ho, r⟩ := x.gen; ⟨o, nm, qn, ha o ho, r⟩, let ⟨gs, h1, h2⟩ := x.will; ⟨gs, by rw [hg]; exact h1, h2.frame hF⟩, x.aF, x.FB⟩

theorem allBare_set {G : Array GenState} {g : Nat} {x : GenState} (h : AllBare G) (hx : x.bare = true) : AllBare (G.setIfInBounds g x) := by
  intro y hy
  obtain ⟨i, hi, rfl⟩ := Array.mem_iff_getElem.mp hy
  rw [Array.getElem_setIfInBounds (by simpa using hi)]
  split
  · exact hx
  · exact h _ (Array.getElem_mem _)

/-- what a waking leaves alone -/
structure Woke (F : List Addr) (s s' : Shared) : Prop where
  heap : ∀ b o, b ∉ F → s.heap.get? b = some o → s'.heap.get? b = some o
  os : s'.os = s.os
  bare : AllBare s.gens → AllBare s'.gens

theorem sx_quiet {M : Model} {c : Code} {t : Sem Fin} {fs : List Frame} {s : Shared} {P : End → Shared → Prop} (x : SegX M A c t fs s P) : SegX M A c t fs s (fun e s' => e.quiet = true ∧ P e s') := fun Γ p hc hΓ => by
  obtain ⟨e, s', hr, hq, hp⟩ := x Γ p hc hΓ
  exact ⟨e, s', hr, hq, hq, hp⟩

theorem wpAny_resumeX {α : Type} {Q : α → Shared → Prop} {E : Value → Shared → Prop} {s : Shared} {g : Nat} {gs : GenState} {l : List Value} {k : GenResult → Sem α} {c : Code} {t : Sem Fin} {fs : List Frame} (hg : s.gens[g]? = some gs) (hst : startOf gs = some (c, t, fs))
    (x : SegX (model PR w) A c t fs (s.setGen g .running) (fun e s₁ => wpAny (model PR w) A (k e.result) Q E (s₁.setGen g e.genState))) : wpAny (model PR w) A (.resume g (.send .none) l k) Q E s := by
  have key : (gs = .fresh c ∧ (Resume.send Value.none) = .send .none ∧ t = denote table c ∧ fs = []) ∨ (∃ k₀ l₀ p₀ cl, gs = .suspended k₀ l₀ c p₀ fs cl ∧ t = k₀ (.send .none)) := by
    cases gs with
    | fresh c' => simp only [startOf, Option.some.injEq, Prod.mk.injEq] at hst; obtain ⟨rfl, rfl, rfl⟩ := hst; exact .inl ⟨rfl, rfl, rfl, rfl⟩
    | suspended k₀ l₀ c' p₀ fs' cl => simp only [startOf, Option.some.injEq, Prod.mk.injEq] at hst; obtain ⟨rfl, rfl, rfl⟩ := hst; exact .inr ⟨k₀, l₀, p₀, cl, rfl, rfl⟩
    | running => cases hst
    | finished => cases hst
  exact fun Γ p hΓ => PySem.W.X.wake_any α PR w hg key (fun Γ => Γ.In A) (fun _ h => h) (x.mono fun e s₁ h Γ p hC => h Γ p hC) Γ p hΓ

theorem gen_nextX {E : Value → Shared → Prop} {s : Shared} {a g : Nat} {F : List Addr} {us : List U} {Q : Option Value → Shared → Prop} (hh : A.handled = none) (hroom : A.depth < recursionLimit) (hl : s.heap.NoLimit) (ext : Ext B s.heap)
    (X : GA w A.in1 B a g F us s)
    (hQ : ∀ u us' v s' F', us = u :: us' → (IsUnit s'.heap v u ∧ ∀ ta, v = .ref ta → ta ∉ F') → GA w A.in1 B a g F' us' s' → Woke F s s' → (∀ b ∈ F', b ∈ F ∨ s.heap.get? b = none) → Q (some v) s')
    (hD : us = [] → ∀ s', Woke F s s' → Q none s') : wpAny (model PR w) A (pyNext (.ref a)) Q E s := by
  obtain ⟨hg, ⟨gs, hgs, W⟩, haF, hFB⟩ := X
  obtain ⟨c, t, fs, hst, H⟩ := Will.iff.mp W
  unfold pyNext
  refine wpAny_bind (wpAny_attempt (wpAny_callSpecial?_slot (name := Str.ofString "__next__") hg.typeIs slot_gen_next
    (wpAny_call_entry slot_gen_next hg.typeIs entry_gen_next ?_ (args_gen_next _))))
  show wpAny _ A.in1 (Builtin.Generator.genWake (.ref a) (.send .none)) _ _ s
  unfold Builtin.Generator.genWake
  refine wpAny_bind (wpAny_holding (wpAny_genNumber hg (wpAny_bind (wpAny_genState hgs ?_))))
  have hx := sx_quiet (H (s.setGen g .running) (fun b hb o q => q) ext)
  cases gs with
  | running => cases hst
  | finished => cases hst
  | _ =>
    refine wpAny_bind (wpAny_roomToWake hl hroom ?_)
    show wpAny _ A.in1 (.resume g (.send .none) [] _) _ _ s
    refine wpAny_resumeX hgs hst (hx.mono fun e s₁ he => ?_)
    obtain ⟨hq, he⟩ := he
    cases us with
    | nil =>
      obtain ⟨rfl, hs⟩ := he
      show wpAny _ A.in1 (newExc (.type "StopIteration") [] >>= _) _ _ _
      refine wpAny_bind ?_
      simp only [newExc, newTuple]
      refine wpAny_bind (wpAny_newObj_type ?_ (by size_fits))
      refine wpAny_bind (m := firstArgMember _ _) (wpAny_of_eq (a := Value.none) (by first | rfl | (simp only [firstArgMember]; rfl)) ?_)
      refine wpAny_newObj_type ?_ (by size_fits)
      simp only [raiseNew]
      refine wpAny_bind (wpAny_bind (wpAny_handled ?_))
      first | rw [show A.in1.handled = none from hh] | rw [hh]
      refine wpAny_throw ?_
      refine wpAny_bind (wpAny_isInstance (T := "StopIteration") (b := true) ⟨_, Heap.get?_push_size _ rfl, rfl⟩ isSubtype_stop ?_)
      refine wpAny_pure (hD rfl _ ⟨fun b o hb q => Heap.get?_push_of_some _ (Heap.get?_push_of_some _ (hs.heap b o hb q)), hs.os, fun hb => ?_⟩)
      show AllBare (s₁.gens.setIfInBounds g .finished)
      rw [hs.gens]
      exact allBare_set (allBare_set hb rfl) rfl
    | cons u us' =>
      obtain ⟨v, l, k, c', p, fs', F', rfl, hu, hs, hF', hW⟩ := he
      have hgf : (End.susp v false l k c' p fs').genState = .suspended k l c' p fs' false := by
        have : fs'.any Frame.guarded = false := by simpa [End.quiet] using hq
        simp [End.genState, this]
      have hgl : g < s.gens.size := (Array.getElem?_eq_some_iff.mp hgs).1
      refine wpAny_pure ⟨v, rfl, wpAny_pure (hQ u us' v _ F' rfl hu ⟨?_, ⟨_, ?_, hW⟩, fun hm => ?_, fun b hb => ?_⟩ ⟨hs.heap, hs.os, fun hb => ?_⟩ hF')⟩
      · obtain ⟨o, nm, qn, ho, r⟩ := hg
        exact ⟨o, nm, qn, hs.heap a o haF ho, r⟩
      · show (s₁.gens.setIfInBounds g _)[g]? = _
        rw [hs.gens, hgf]
        show ((s.gens.setIfInBounds g .running).setIfInBounds g _)[g]? = _
        simp [hgl]
      · obtain ⟨o, nm, qn, ho, r⟩ := hg
        rcases hF' a hm with q | q
        · exact haF q
        · rw [show (s.setGen g .running).heap = s.heap from rfl, ho] at q; cases q
      · rcases hF' b hb with q | q
        · exact hFB b q
        · cases z : B.get? b with
          | none => rfl
          | some o => rw [show (s.setGen g .running).heap = s.heap from rfl, ext b o z] at q; cases q
      · show AllBare (s₁.gens.setIfInBounds g _)
        rw [hs.gens, hgf]
        exact allBare_set (allBare_set hb rfl) rfl
theorem gen_next {E : Value → Shared → Prop} {s : Shared} {a g : Nat} {F : List Addr} {us : List U} {Q : Option Value → Shared → Prop} (hh : A.handled = none) (hroom : A.depth < recursionLimit) (hl : s.heap.NoLimit) (ext : Ext B s.heap)
    (X : GA w A.in1 B a g F us s)
    (hQ : ∀ u us' v s' F', us = u :: us' → IsUnit s'.heap v u → GA w A.in1 B a g F' us' s' → Woke F s s' → (∀ b ∈ F', b ∈ F ∨ s.heap.get? b = none) → Q (some v) s')
    (hD : us = [] → ∀ s', Woke F s s' → Q none s') : wpAny (model PR w) A (pyNext (.ref a)) Q E s :=
  gen_nextX hh hroom hl ext X (fun u us' v s' F' e h => hQ u us' v s' F' e h.1) hD
end
end Mine

namespace Mine
open PySem.W.X (SegX)
section
variable {w : World} {A : Around} {B : Heap} {mg mb : Str → Option Value}

theorem get_fresh {h : Heap} {b : Addr} (hb : h.objs.size ≤ b) : h.get? b = none := by
  cases q : h.get? b with
  | none => rfl
  | some o => exact absurd (Heap.lt_size q) (Nat.not_lt.mpr hb)
theorem fresh_of_ext {B h : Heap} (ext : Ext B h) {b : Addr} (hb : h.get? b = none) : B.get? b = none := by
  cases q : B.get? b with
  | none => rfl
  | some o => rw [ext _ _ q] at hb; cases hb

theorem call_gen {E : Value → Shared → Prop} {s : Shared} {x : Str} {t : Tok} {Q : Value → Shared → Prop} (GB : GC mg mb B) (hroom : A.depth < recursionLimit) (ext : Ext B s.heap)
    (h : ∀ a g C s', Ext s.heap s'.heap → s'.os = s.os → (AllBare s.gens → AllBare s'.gens) → s.heap.get? C = none → s.heap.get? a = none →
      (∀ A' : Around, A'.handled = none → GA w A' B a g [C] (unitsF 0 false x.cps.toList) s') → Q (.ref a) s') :
    wpAny (model PR w) A (call (.ref 28) [.str x t]) Q E s := by
  have G : GC mg mb s.heap := GB.keeps ext
  obtain ⟨o, pm, cd, ho, hd, hcd⟩ := G.fn (28, Str.ofString "_iter_escaped_chars", 2) (by simp [fns])
  refine wpAny_call (codeAny_call_generator (body := fnBody 2) hroom ho hd rfl rfl rfl hcd ?_)
  refine wpAny_of_eq (a := [(Str.ofString "addr", Value.str x t)]) rfl ?_
  refine wpAny_newFunctionEnv (show ∀ x ∈ (fnScope 2).names, x.2 ≠ .cell by decide) (locs rfl) (fun h₁ hn₁ hs₁ => ⟨G.lim.fresh _ hs₁, ?_⟩) rfl
  have e1 : Ext s.heap h₁ := fun b o e => hs₁.extBut b o (Nat.ne_of_lt (Heap.lt_size e)) (Heap.get?_push_of_some _ e)
  have hz : h₁.objs.size = s.heap.objs.size + 1 := by rw [hs₁.1, Heap.size_push]
  show Q (.ref h₁.objs.size) _
  refine h h₁.objs.size s.gens.size s.heap.objs.size _ (fun b o e => Heap.get?_push_of_some _ (e1 b o e)) rfl (fun hb => hb.push rfl) (get_fresh (Nat.le_refl _)) (get_fresh (by rw [hz]; exact Nat.le_succ _)) fun A' hh => ⟨?_, ⟨.fresh (.func (fnBody 2) (genEnv' s.heap.objs.size 28 cd)), ?_, ?_⟩, ?_, ?_⟩
  · exact ⟨_, _, _, Heap.get?_push_size _ rfl, rfl, rfl, rfl⟩
  · exact Array.getElem?_push_size ..
  · exact gen_start (m := fun x_1 => List.lookup x_1 [(Str.ofString "addr", Value.str x t)].reverse) hh GB (hn₁.push _) (by rfl) (fresh_of_ext ext (get_fresh (Nat.le_refl _)))
  · intro hm
    rw [List.mem_singleton] at hm
    rw [hz] at hm
    exact absurd hm (Nat.succ_ne_self _)
  · intro b hb
    rw [List.mem_singleton.mp hb]
    exact fresh_of_ext ext (get_fresh (Nat.le_refl _))
end
end Mine

namespace Mine
open PySem.W.X (SegX)

theorem t_iter : (Str.ofString "_iter_escaped_chars", Value.ref 28) ∈ gtab := by simp [gtab]
theorem f_iter : ((28 : Addr), Str.ofString "_iter_escaped_chars", 2) ∈ fns := by simp [fns]
theorem t_strip : (Str.ofString "_strip_quoted_realnames", Value.ref 35) ∈ gtab := by simp [gtab]
theorem f_strip : ((35 : Addr), Str.ofString "_strip_quoted_realnames", 3) ∈ fns := by simp [fns]
theorem t_check : (Str.ofString "_check_parenthesis", Value.ref 42) ∈ gtab := by simp [gtab]
theorem f_check : ((42 : Addr), Str.ofString "_check_parenthesis", 4) ∈ fns := by simp [fns]
theorem t_ister : (Str.ofString "ISTERMINAL", Value.ref 136) ∈ gtab := by simp [gtab]
theorem f_ister : ((136 : Addr), Str.ofString "ISTERMINAL", 60) ∈ fns := by simp [fns]
theorem t_iseof : (Str.ofString "ISEOF", Value.ref 143) ∈ gtab := by simp [gtab]
theorem f_iseof : ((143 : Addr), Str.ofString "ISEOF", 61) ∈ fns := by simp [fns]
theorem t_closes : (Str.ofString "_law_closes", Value.ref 150) ∈ gtab := by simp [gtab]
theorem f_closes : ((150 : Addr), Str.ofString "_law_closes", 63) ∈ fns := by simp [fns]
theorem t_searched : (Str.ofString "_law_searched", Value.ref 157) ∈ gtab := by simp [gtab]
theorem f_searched : ((157 : Addr), Str.ofString "_law_searched", 64) ∈ fns := by simp [fns]
theorem t_drawn : (Str.ofString "_law_drawn", Value.ref 164) ∈ gtab := by simp [gtab]
theorem f_drawn : ((164 : Addr), Str.ofString "_law_drawn", 65) ∈ fns := by simp [fns]
theorem t_worth : (Str.ofString "_law_worth", Value.ref 169) ∈ gtab := by simp [gtab]
theorem f_worth : ((169 : Addr), Str.ofString "_law_worth", 66) ∈ fns := by simp [fns]
theorem t_due : (Str.ofString "_law_due", Value.ref 176) ∈ gtab := by simp [gtab]
theorem f_due : ((176 : Addr), Str.ofString "_law_due", 67) ∈ fns := by simp [fns]
theorem b_enumerate : (Str.ofString "enumerate", Value.type "enumerate") ∈ bvals := by simp [bvals]
theorem b_list : (Str.ofString "list", Value.type "list") ∈ bvals := by simp [bvals]
theorem b_len : (Str.ofString "len", Value.builtin "len") ∈ bvals := by simp [bvals]
theorem b_int : (Str.ofString "int", Value.type "int") ∈ bvals := by simp [bvals]
theorem b_ord : (Str.ofString "ord", Value.builtin "ord") ∈ bvals := by simp [bvals]
theorem b_chr : (Str.ofString "chr", Value.builtin "chr") ∈ bvals := by simp [bvals]
theorem b_max : (Str.ofString "max", Value.builtin "max") ∈ bvals := by simp [bvals]
theorem b_min : (Str.ofString "min", Value.builtin "min") ∈ bvals := by simp [bvals]
theorem b_isinstance : (Str.ofString "isinstance", Value.builtin "isinstance") ∈ bvals := by simp [bvals]
theorem b_range : (Str.ofString "range", Value.type "range") ∈ bvals := by simp [bvals]
theorem b_super : (Str.ofString "super", Value.type "super") ∈ bvals := by simp [bvals]

structure Now (s s' : Shared) : Prop where
  ext : Ext s.heap s'.heap
  os : s'.os = s.os
  bare : AllBare s.gens → AllBare s'.gens
theorem Now.refl (s : Shared) : Now s s := ⟨fun _ _ e => e, rfl, id⟩
theorem Now.trans {a b c : Shared} (x : Now a b) (y : Now b c) : Now a c := ⟨fun l o e => y.ext l o (x.ext l o e), y.os.trans x.os, fun h => y.bare (x.bare h)⟩

/-- room on the two lines -/
structure Room (A : Around) (d : Nat) : Prop where
  hh : A.handled = none
  dp : A.depth + d ≤ 900
theorem Room.lt {A : Around} {d : Nat} (r : Room A d) : A.depth < recursionLimit := by
  have := r.dp
  show A.depth < 1000
  omega
theorem Room.deeper {A : Around} {d : Nat} (r : Room A (d + 1)) (env : Env) : Room (A.deeper env) d := ⟨r.hh, by have := r.dp; show A.depth + 1 + d ≤ 900; omega⟩
theorem Room.mono {A : Around} {d d' : Nat} (r : Room A d) (h : d' ≤ d) : Room A d' := ⟨r.hh, by have := r.dp; omega⟩

section
variable {w : World} {A : Around} {mg mb : Str → Option Value} {E : Value → Shared → Prop} {s : Shared}

theorem enter {Q : Value → Shared → Prop} {a : Addr} {name : Str} {i : Nat} {args : List Value} {binds : List (Str × Value)} (G : GC mg mb s.heap) (hf : (a, name, i) ∈ fns) (hroom : A.depth < recursionLimit)
    (hbind : ∀ pm cd, bindArgs (Calls.docDef name (fnArgs i) (fnBody i) (fnScope i) pm cd .none) ⟨args, []⟩ = pure binds)
    (hloc : ∀ x ∈ binds, (fnScope i).names.lookup x.1 = some .local)
    (h : ∀ h₁ cd, Fr s.heap s.heap.objs.size h₁ (fun x => binds.reverse.lookup x) →
      wpAny (model PR w) (A.deeper (envOf name (fnScope i) s.heap.objs.size a cd)) (execs (fnBody i) (envOf name (fnScope i) s.heap.objs.size a cd))
        (fun f s' => Q (match f with | .ret v => v | _ => .none) s') (fun _ _ => False) { s with heap := h₁, toks := s.toks + binds.length })
    (hco : (fnScope i).isCoroutine = false := by rfl) (hgen : (fnScope i).isGenerator = false := by rfl) (hk : (fnScope i).kind = .function := by rfl)
    (hcell : ∀ x ∈ (fnScope i).names, x.2 ≠ .cell := by decide) :
    wpAny (model PR w) A (call (.ref a) args) Q E s := by
  obtain ⟨o, pm, cd, ho, hd, hcd⟩ := G.fn _ hf
  exact wpAny_call (call_plain_ret hroom ho hd G.lim hcd (hbind pm cd) hloc (fun h₁ F => h h₁ cd F) hco hgen hk hcell)

/-- a def of the text's, called by its name with arguments -/
theorem ev_call {nm : Str} {sc : Scope} {L a : Addr} {cd : Value} {x : Str} {np pos : Pos} {f : Addr} {name : Str} {i : Nat} {e : Expr} {rest : List Expr} {Q : Value → Shared → Prop} (G : GC mg mb s.heap) (hp : (x, .ref f) ∈ gtab) (hf : (f, name, i) ∈ fns)
    (h : wpAny (model PR w) A (spliced (backTo pos (starEach (e :: rest) (envOf nm sc L a cd)))) (fun vs s₁ => Ext s.heap s₁.heap ∧ wpAny (model PR w) A (call (.ref f) vs) Q E s₁) E s)
    (he : starEach (e :: rest) (envOf nm sc L a cd) = (false, eval e (envOf nm sc L a cd)) :: starEach rest (envOf nm sc L a cd) := by rfl)
    (hk : sc.kind = .function := by rfl) (hx : (envOf nm sc L a cd).kindOf x = some .globalImplicit := by rfl) (hd : (x == ("__debug__" : Str)) = false := by decide) :
    wpAny (model PR w) A (eval (.Call (.Name x np) (e :: rest) [] pos) (envOf nm sc L a cd)) Q E s := by
  obtain ⟨o, pm, cd', ho, hdat, hcd⟩ := G.fn _ hf
  exact wpAny_Call_NameR (ev_gname G hp (callWith_def_at ho hdat (wpAny_mono h (fun vs s₁ h₁ => ⟨h₁.1 _ _ ho, h₁.2⟩) fun _ _ e => e) he) hk hx hd)

theorem strip_ok {Q : Value → Shared → Prop} {x : Str} {t : Tok} (G : GC mg mb s.heap) (hroom : A.depth < recursionLimit) (hq : 34 ∉ x.cps.toList) (h : ∀ t' s', Now s s' → Q (.str x t') s') :
    wpAny (model PR w) A (call (.ref 35) [.str x t]) Q E s := by
  refine enter (name := Str.ofString "_strip_quoted_realnames") (i := 3) (binds := [(Str.ofString "addr", .str x t)]) G (by simp [fns]) hroom (fun _ _ => rfl) (locs rfl) fun h₁ cd F => ?_
  refine wpAny_execs_cons (wpAny_If (wpAny_isTrue_Compare1 (wpAny_Constant_str (ld F rfl (notIn_str (wpAny_truthy_bool ?_))))))
  rw [show (Str.ofString "\"") = ⟨#[34]⟩ from rfl, PySem.StrLaws.found_one, decide_eq_false hq]
  simp only [Bool.not_false, if_true]
  refine wpAny_execs_cons (wpAny_Return_some (ld F rfl ?_))
  exact h t _ ⟨F.keep, rfl, id⟩

def chkF : Int → List U → Bool
  | n, [] => n == 0
  | n, u :: r => if u.2 = ⟨#[40]⟩ then chkF (n + 1) r else if u.2 = ⟨#[41]⟩ then (if n - 1 < 0 then false else chkF (n - 1) r) else chkF n r
def check (x : List Nat) : Bool := chkF 0 (unitsF 0 false x)

theorem go_gen {elts : List Expr} {x1 : Nat} {pos : Pos} {a g : Nat} {t : Addr} {Q : Unit → Shared → Prop} (hg : s.heap.IsGen a g) (h : Q () s) : wpAny (model PR w) A (letOwnedTupleGo (.Tuple elts x1 pos) (.ref a) (.ref t)) Q E s := by
  obtain ⟨o, nm, qn, ho, hc, hd, hs⟩ := hg
  unfold letOwnedTupleGo
  refine wpAny_bind (wpAny_load ho ?_)
  rw [hc, hd]
  exact wpAny_pure h

theorem fr_ext {h₀ h h' : Heap} {L : Addr} {m : Str → Option Value} (F : Fr h₀ L h m) (k : Ext h h') : Fr h₀ L h' m := ⟨F.ns.keeps k, fun b o e => k b o (F.keep b o e), F.above⟩
theorem fr_woke {h₀ : Heap} {s s' : Shared} {L : Addr} {m : Str → Option Value} {FF : List Addr} (F : Fr h₀ L s.heap m) (k : Woke FF s s') (hL : L ∉ FF) (hF : ∀ b ∈ FF, h₀.get? b = none) : Fr h₀ L s'.heap m :=
  ⟨F.ns.at' fun o e => k.heap L o hL e, fun b o e => k.heap b o (fun hm => by rw [hF b hm] at e; cases e) (F.keep b o e), F.above⟩

theorem check_ok {Q : Value → Shared → Prop} {x : Str} {t : Tok} (G : GC mg mb s.heap) (room : Room A 3) (hq : 34 ∉ x.cps.toList) (hlen : x.cps.size ≤ 1000) (h : ∀ s', Now s s' → Q (.bool (check x.cps.toList)) s') :
    wpAny (model PR w) A (call (.ref 42) [.str x t]) Q E s := by
  refine enter (name := Str.ofString "_check_parenthesis") (i := 4) (binds := [(Str.ofString "addr", .str x t)]) G (by simp [fns]) room.lt (fun _ _ => rfl) (locs rfl) fun h₁ cd F => ?_
  have room' := room.deeper (envOf (Str.ofString "_check_parenthesis") (fnScope 4) s.heap.objs.size 42 cd)
  have GB := G
  refine wpAny_execs_cons (wpAny_Assign_Name (ev_call (G.keeps F.keep) t_strip f_strip (spliced_more (ld F rfl (spliced_none ⟨fun _ _ e => e, ?_⟩)))))
  refine strip_ok (G.keeps F.keep) room'.lt hq fun t' s₂ n₂ => ?_
  have F₂ := fr_ext F n₂.ext
  have e₂ : s₂.os = s.os := n₂.os
  have g₂ : AllBare s.gens → AllBare s₂.gens := n₂.bare
  clear n₂
  refine st F₂ fun h₃ F₃ => ?_
  refine wpAny_execs_cons (wpAny_Assign_Name (wpAny_Constant_int (st F₃ fun h₄ F₄ => ?_)))
  refine wpAny_execs_cons (wpAny_For (ev_call (G.keeps F₄.keep) t_iter f_iter (spliced_more (ld F₄ rfl (spliced_none ⟨fun _ _ e => e, ?_⟩)))))
  refine call_gen GB room'.lt F₄.keep fun a g C s₅ e5 o5 b5 fC fa hGA => ?_
  have F₅ := fr_ext F₄ e5
  have hg5 := (hGA _ room'.hh).gen
  have hLC : s.heap.objs.size ≠ C := fun z => by
    have := F₄.ns.lt
    obtain ⟨oL, _, _, q, _⟩ := F₄.ns
    rw [z] at q; rw [q] at fC; cases fC
  have hLa : s.heap.objs.size ≠ a := fun z => by
    obtain ⟨oL, _, _, q, _⟩ := F₄.ns
    rw [z] at q; rw [q] at fa; cases fa
  replace o5 : s₅.os = s.os := o5.trans e₂
  replace b5 : AllBare s.gens → AllBare s₅.gens := fun z => b5 (g₂ z)
  clear e5 fC fa F₄ F₃ F₂ F g₂ e₂
  refine wpAny_pyIter_gen hg5 ?_
  generalize hA : A.deeper (envOf (Str.ofString "_check_parenthesis") (fnScope 4) s.heap.objs.size 42 cd) = A' at room' hGA ⊢
  clear hA hg5
  refine codeAny_forLoop_any (fun n s' => ∃ us F' m n', GA w A'.in1 s.heap a g F' us s' ∧ Fr s.heap s.heap.objs.size s'.heap m ∧
      s.heap.objs.size ∉ F' ∧ (∃ tk, m (Str.ofString "opens") = some (.int n' tk)) ∧ n = us.length + 1 ∧ chkF n' us = check x.cps.toList ∧ s'.os = s.os ∧ (AllBare s.gens → AllBare s'.gens)) ?_ ((unitsF 0 false x.cps.toList).length + 1) ⟨unitsF 0 false x.cps.toList, [C], _, 0, hGA _ room'.hh, F₅, by simpa using hLC, ⟨_, rfl⟩, rfl, rfl, o5, b5⟩
  rintro n s' ⟨us, F', m, n', hga, FF, hLF, ⟨tk, hmo⟩, rfl, hchk, ho, hb⟩
  refine gen_next room'.hh room'.lt (G.lim.keeps FF.keep) FF.keep hga (fun u us' v s₆ F'' hus hu hga' wk hF'' => ?_) fun hus s₆ wk => ?_
  · subst hus
    have hL : s.heap.objs.size ∉ F'' := fun hm => (hF'' _ hm).elim hLF fun q => by
      obtain ⟨oL, _, _, q', _⟩ := FF.ns
      rw [q'] at q; cases q
    have F₆ := fr_woke FF wk hLF hga.FB
    obtain ⟨ta, t1, t2, rfl, hta⟩ := hu
    refine go_gen hga'.gen ?_
    refine wpAny_assign_Tuple room'.hh ⟨_, hta, rfl, _, rfl⟩ rfl rfl fun h₇ hx₇ => ?_
    have e₇ : Ext s₆.heap h₇ := fun b o q => hx₇ b o (Nat.ne_of_lt (Heap.lt_size q)) q
    have F₇ := fr_ext F₆ e₇
    show wpAny _ _ (do holding [_] (assign (.Name (Str.ofString "pos") _) _ (.int u.1 t1)); do holding [] (assign (.Name (Str.ofString "ch") _) _ (.str u.2 t2)); pure ()) _ _ _
    refine wpAny_bind (wpAny_holding (wpAny_assign_Name (wpAny_storeName_local rfl F₇.ns (fun h₈ hn₈ hs₈ => ?_) rfl)))
    replace hs₈ : Heap.SameBut s.heap.objs.size h₇ h₈ := hs₈
    have F₈ := F₇.set hn₈ hs₈
    refine wpAny_bind (wpAny_holding (wpAny_assign_Name (wpAny_storeName_local rfl hn₈ (fun h₉ hn₉ hs₉ => wpAny_pure ?_) rfl)))
    replace hs₉ : Heap.SameBut s.heap.objs.size h₈ h₉ := hs₉
    have F₉ := F₈.set hn₉ hs₉
    have k₉ : ∀ b o, b ≠ s.heap.objs.size → s₆.heap.get? b = some o → h₉.get? b = some o := fun b o hb q => (hs₉.2 b hb).trans ((hs₈.2 b hb).trans (e₇ b o q))
    have bare6 : AllBare s.gens → AllBare s₆.gens := fun z => wk.bare (hb z)
    have os6 : s₆.os = s.os := wk.os.trans ho
    have fin : ∀ (h' : Heap) (tk' : Nat) (m' : Str → Option Value) (n'' : Int) (tk'' : Tok), Fr s.heap s.heap.objs.size h' m' → Heap.SameBut s.heap.objs.size h₉ h' → m' (Str.ofString "opens") = some (.int n'' tk'') → chkF n'' us' = check x.cps.toList →
        ∃ mm, mm < (u :: us').length + 1 ∧ ∃ us F' m n', GA w A'.in1 s.heap a g F' us { s₆ with heap := h', toks := tk' } ∧ Fr s.heap s.heap.objs.size h' m ∧
      s.heap.objs.size ∉ F' ∧ (∃ tk, m (Str.ofString "opens") = some (.int n' tk)) ∧ mm = us.length + 1 ∧ chkF n' us = check x.cps.toList ∧ s₆.os = s.os ∧ (AllBare s.gens → AllBare s₆.gens) := fun h' tk' m' n'' tk'' F' hs' hm' hc' =>
      ⟨us'.length + 1, by simp, us', F'', m', n'', hga'.frame rfl (fun o q => (hs'.2 a (Ne.symm hLa)).trans (k₉ a o (Ne.symm hLa) q)) (fun b hb o q => (hs'.2 b fun z => hL (z ▸ hb)).trans (k₉ b o (fun z => hL (z ▸ hb)) q)), F', hL, ⟨_, hm'⟩, rfl, hc', os6, bare6⟩
    have hmo9 : (fun y => if y = Str.ofString "ch" then some (Value.str u.2 t2) else if y = Str.ofString "pos" then some (Value.int u.1 t1) else m y) (Str.ofString "opens") = some (.int n' tk) := by
      show (if _ then _ else _) = _; rw [if_neg (by decide), if_neg (by decide)]; exact hmo
    have hmc9 : (fun y => if y = Str.ofString "ch" then some (Value.str u.2 t2) else if y = Str.ofString "pos" then some (Value.int u.1 t1) else m y) (Str.ofString "ch") = some (.str u.2 t2) := by
      show (if _ then _ else _) = _; rw [if_pos rfl]
    generalize (fun y => if y = Str.ofString "ch" then some (Value.str u.2 t2) else if y = Str.ofString "pos" then some (Value.int u.1 t1) else m y) = M at F₉ hn₉ hmo9 hmc9
    rw [chkF] at hchk
    refine wpAny_execs_cons (wpAny_If (wpAny_isTrue_Compare1 (ld F₉ hmc9 (wpAny_Constant_str (eq_str (wpAny_truthy_bool ?_))))))
    by_cases h40 : u.2 = ⟨#[40]⟩
    · rw [if_pos h40] at hchk
      rw [show (u.2 == Str.ofString "(") = true by rw [h40]; rfl]
      simp only [if_true]
      refine wpAny_execs_cons (wpAny_AugAssign_Name (ldn F₉ hmo9 (wpAny_Constant_int (iadd_int (wpAny_storeName_local rfl hn₉ (fun h' hn' hs' => ?_) rfl)))))
      refine wpAny_execs_nil (wpAny_execs_nil ?_)
      exact fin h' _ _ _ _ (F₉.set hn' hs') hs' (by (show (if _ then _ else _) = _); rw [if_pos rfl]) hchk
    · rw [if_neg h40] at hchk
      rw [show (u.2 == Str.ofString "(") = false from beq_eq_false_iff_ne.mpr h40]
      simp only [Bool.false_eq_true, if_false]
      refine wpAny_execs_cons (wpAny_If (wpAny_isTrue_Compare1 (ld F₉ hmc9 (wpAny_Constant_str (eq_str (wpAny_truthy_bool ?_))))))
      by_cases h41 : u.2 = ⟨#[41]⟩
      · rw [if_pos h41] at hchk
        rw [show (u.2 == Str.ofString ")") = true by rw [h41]; rfl]
        simp only [if_true]
        refine wpAny_execs_cons (wpAny_AugAssign_Name (ldn F₉ hmo9 (wpAny_Constant_int (isub_int (wpAny_storeName_local rfl hn₉ (fun h' hn' hs' => ?_) rfl)))))
        have F' := F₉.set hn' hs'
        have hmo' : (fun y => if y = Str.ofString "opens" then some (Value.int (n' - 1) (s₆.toks + 1 + 1 + 1 + 1 + 1)) else M y) (Str.ofString "opens") = some (Value.int (n' - 1) (s₆.toks + 1 + 1 + 1 + 1 + 1)) := by
          show (if _ then _ else _) = _; rw [if_pos rfl]
        refine wpAny_execs_cons (wpAny_If (wpAny_isTrue_Compare1 (ld F' hmo' (wpAny_Constant_int (lt_int (wpAny_truthy_bool ?_))))))
        by_cases hneg : n' - 1 < 0
        · rw [if_pos hneg] at hchk
          simp only [hneg, decide_true, if_true]
          refine wpAny_execs_cons (wpAny_Return_some (wpAny_Constant_bool ?_))
          rw [hchk]
          exact h _ ⟨F'.keep, os6, bare6⟩
        · rw [if_neg hneg] at hchk
          simp only [hneg, decide_false, Bool.false_eq_true, if_false]
          refine wpAny_execs_nil (wpAny_execs_nil (wpAny_execs_nil (wpAny_execs_nil ?_)))
          exact fin h' _ _ _ _ F' hs' hmo' hchk
      · rw [if_neg h41] at hchk
        rw [show (u.2 == Str.ofString ")") = false from beq_eq_false_iff_ne.mpr h41]
        simp only [Bool.false_eq_true, if_false]
        refine wpAny_execs_nil (wpAny_execs_nil (wpAny_execs_nil ?_))
        exact fin h₉ _ _ _ _ F₉ (Heap.SameBut.refl _ _) hmo9 hchk
  · subst hus
    have F₆ := fr_woke FF wk hLF hga.FB
    refine wpAny_execs_nil ?_
    refine wpAny_execs_cons (wpAny_Return_some (wpAny_Compare1 (ld F₆ hmo (wpAny_Constant_int (eq_int ?_)))))
    rw [chkF] at hchk
    rw [hchk]
    exact h _ ⟨F₆.keep, wk.os.trans ho, fun z => wk.bare (hb z)⟩
end
end Mine

namespace Mine

structure St (h₀ : Heap) (s₀ : Shared) (L : Addr) (m : Str → Option Value) (K : List (Addr × Obj)) (s : Shared) : Prop where
  fr : Fr h₀ L s.heap m
  nw : News h₀ L s.heap K
  os : s.os = s₀.os
  bare : AllBare s₀.gens → AllBare s.gens

section
variable {w : World} {A : Around} {mg mb : Str → Option Value} {E : Value → Shared → Prop} {s s₀ : Shared} {h₀ : Heap} {L : Addr} {m : Str → Option Value} {K : List (Addr × Obj)} {nm : Str} {sc : Scope} {a : Addr} {cd : Value}

theorem St.tk (σ : St h₀ s₀ L m K s) {tk : Nat} : St h₀ s₀ L m K { s with toks := tk } := ⟨σ.fr, σ.nw, σ.os, σ.bare⟩
theorem news_ext {h h' : Heap} (N : News h₀ L h K) (k : Ext h h') : News h₀ L h' K := fun p hp => ⟨k _ _ (N p hp).1, (N p hp).2⟩
theorem St.now {s' : Shared} (σ : St h₀ s₀ L m K s) (n : Now s s') : St h₀ s₀ L m K s' := ⟨fr_ext σ.fr n.ext, news_ext σ.nw n.ext, n.os.trans σ.os, fun z => n.bare (σ.bare z)⟩
theorem St.ext {h' : Heap} {tk : Nat} (σ : St h₀ s₀ L m K s) (k : Ext s.heap h') : St h₀ s₀ L m K { s with heap := h', toks := tk } := ⟨fr_ext σ.fr k, news_ext σ.nw k, σ.os, σ.bare⟩
theorem St.gc (σ : St h₀ s₀ L m K s) (G : GC mg mb h₀) : GC mg mb s.heap := G.keeps σ.fr.keep
theorem St.start {h₁ : Heap} {tk : Nat} (F : Fr s.heap s.heap.objs.size h₁ m) : St s.heap s s.heap.objs.size m [] { s with heap := h₁, toks := tk } := ⟨F, .nil, rfl, id⟩
theorem St.done (σ : St s₀.heap s₀ L m K s) : Now s₀ s := ⟨σ.fr.keep, σ.os, σ.bare⟩
theorem St.push (σ : St h₀ s₀ L m K s) (o : Obj) (hf : o.isFreed = false) : St h₀ s₀ L m ((s.heap.objs.size, o) :: K) { s with heap := s.heap.push o } := ⟨σ.fr.push o, σ.nw.push σ.fr o hf, σ.os, σ.bare⟩

theorem r_name {x : Str} {pos : Pos} {v : Value} {Q : Value → Shared → Prop} (σ : St h₀ s₀ L m K s) (hv : m x = some v) (h : Q v s)
    (hk : sc.kind = .function := by rfl) (hl : (envOf nm sc L a cd).kindOf x = some .local := by rfl) (hd : (x == ("__debug__" : Str)) = false := by decide) :
    wpAny (model PR w) A (eval (.Name x pos) (envOf nm sc L a cd)) Q E s := ld σ.fr hv h hk hl hd
theorem r_int {i : Int} {k : Nat} {pos : Pos} {env : Env} {Q : Value → Shared → Prop} (σ : St h₀ s₀ L m K s) (h : ∀ t s', St h₀ s₀ L m K s' → s'.heap = s.heap → Q (.int i t) s') : wpAny (model PR w) A (eval (.Constant (.int i) k pos) env) Q E s :=
  wpAny_Constant_int (h _ _ σ.tk rfl)
theorem r_str {x : Str} {k : Nat} {pos : Pos} {env : Env} {Q : Value → Shared → Prop} (σ : St h₀ s₀ L m K s) (h : ∀ t s', St h₀ s₀ L m K s' → s'.heap = s.heap → Q (.str x t) s') : wpAny (model PR w) A (eval (.Constant (.str x) k pos) env) Q E s :=
  wpAny_Constant_str (h _ _ σ.tk rfl)
theorem r_store {x : Str} {v : Value} {Q : Unit → Shared → Prop} (σ : St h₀ s₀ L m K s) (h : ∀ s', St h₀ s₀ L (fun y => if y = x then some v else m y) K s' → Q () s')
    (hk : sc.kind = .function := by rfl) (hl : (envOf nm sc L a cd).kindOf x = some .local := by rfl) :
    wpAny (model PR w) A (storeName (envOf nm sc L a cd) x v) Q E s := stN σ.fr σ.nw (fun h' F N => h _ ⟨F, N, σ.os, σ.bare⟩) hk hl

/-- a slice of a text, its parts None or ints -/
theorem r_slice {value : Expr} {lower upper : Option Expr} {p pos : Pos} {x : Str} {lo hi : Option Int} {env : Env} {Q : Value → Shared → Prop} (hsz : x.length ≤ sizeLine)
    (hv : ∀ (Q' : Value → Shared → Prop), (∀ t s', St h₀ s₀ L m K s' → s'.heap = s.heap → Q' (.str x t) s') → wpAny (model PR w) A (eval value env) Q' E s)
    (hl : ∀ (s₁ : Shared) (Q' : Value → Shared → Prop), St h₀ s₀ L m K s₁ → s₁.heap = s.heap → (∀ l s', l.map (·.1) = lo → St h₀ s₀ L m K s' → Ext s₁.heap s'.heap → Q' (partValue l) s') → wpAny (model PR w) A (evalPart lower env) Q' E s₁)
    (hu : ∀ (s₁ : Shared) (Q' : Value → Shared → Prop), St h₀ s₀ L m K s₁ → Ext s.heap s₁.heap → (∀ l s', l.map (·.1) = hi → St h₀ s₀ L m K s' → Ext s₁.heap s'.heap → Q' (partValue l) s') → wpAny (model PR w) A (evalPart upper env) Q' E s₁)
    (h : ∀ t s', St h₀ s₀ L m K s' → Ext s.heap s'.heap → Q (.str (Txt.slice x lo hi) t) s') (ht : ∀ o r, letTemporaryGo value o r = pure () := by intro _ _; rfl) :
    wpAny (model PR w) A (eval (.Subscript value (.Slice lower upper none p) pos) env) Q E s := by
  refine wpAny_Subscript_str_slice (hv _ fun t s₁ σ₁ e₁ => hl s₁ _ σ₁ e₁ fun l s₂ hl₂ σ₂ e₂ => hu s₂ _ σ₂ (by rw [e₁] at e₂; exact e₂) fun u s₃ hu₃ σ₃ e₃ => ?_) ht
  refine ⟨x, t, l, u, rfl, rfl, rfl, ?_⟩
  subst hl₂ hu₃
  have e : Ext s.heap (s₃.heap.push { cls := .type "slice", data := .fields #[partValue l, partValue u, .none] }) := fun b o q => Heap.get?_push_of_some _ (e₃ b o (e₂ b o (by rw [e₁]; exact q)))
  exact post_val_or_str ⟨Nat.le_trans (Txt.slice_le x _ _) hsz, fun t' k => h _ _ ⟨fr_ext σ₃.fr fun b o q => Heap.get?_push_of_some _ q, news_ext σ₃.nw fun b o q => Heap.get?_push_of_some _ q, σ₃.os, σ₃.bare⟩ e⟩
theorem part_none {env : Env} {s₁ : Shared} {Q' : Value → Shared → Prop} (σ : St h₀ s₀ L m K s₁) (h : ∀ l s', l.map (·.1) = (none : Option Int) → St h₀ s₀ L m K s' → Ext s₁.heap s'.heap → Q' (partValue l) s') : wpAny (model PR w) A (evalPart none env) Q' E s₁ :=
  wpAny_evalPart_none (h none s₁ rfl σ fun _ _ e => e)
theorem part_some {env : Env} {e : Expr} {i : Int} {s₁ : Shared} {Q' : Value → Shared → Prop} (h : ∀ l s', l.map (·.1) = some i → St h₀ s₀ L m K s' → Ext s₁.heap s'.heap → Q' (partValue l) s')
    (he : ∀ Q'' : Value → Shared → Prop, (∀ t s', St h₀ s₀ L m K s' → Ext s₁.heap s'.heap → Q'' (.int i t) s') → wpAny (model PR w) A (eval e env) Q'' E s₁) : wpAny (model PR w) A (evalPart (some e) env) Q' E s₁ :=
  wpAny_evalPart_some (he _ fun t s' σ e => h (some (i, t)) s' rfl σ e)
end

section
theorem slice_init (x : Str) : (Txt.slice x none (some (-1))).cps.toList = x.cps.toList.dropLast := by
  rw [slice_to_neg (by decide)]
  have h := PyProof.Rows.slice_closes_toL (x := x) (j := max 0 ((x.length : Int) + -1)) (by omega) (by have : x.length = x.length := rfl; omega)
  rw [eq_of_beq h]
  simp only [List.drop_zero, Int.toNat_zero, Int.sub_zero]
  rw [List.dropLast_eq_take]
  congr 1
  have : x.length = x.cps.size := rfl
  simp; omega
theorem slice_tail (x : Str) : (Txt.slice x (some 1) none).cps.toList = x.cps.toList.tail := by
  by_cases h : (1 : Int) ≤ x.length
  · rw [PyProof.Rows.slice_from_eq (b := x.length) (by decide) h rfl]
    have : x.length = x.cps.size := rfl
    rw [← List.drop_one]
    show List.take _ (List.drop (1 : Int).toNat x.cps.toList) = _
    exact List.take_of_length_le (by simp; omega)
  · rw [PyProof.Rows.slice_from_beyond (by omega)]
    have : x.cps.size = 0 := by have : x.length = x.cps.size := rfl; omega
    have : x.cps = #[] := Array.eq_empty_of_size_eq_zero this
    rw [this]; rfl
end

def closes (l : List Nat) : Bool := if !check l || check l.dropLast then false else !check (l.tail ++ [40])

section
variable {w : World} {A : Around} {mg mb : Str → Option Value} {E : Value → Shared → Prop} {s : Shared}
theorem closes_ok {Q : Value → Shared → Prop} {x : Str} {t : Tok} (G : GC mg mb s.heap) (room : Room A 4) (hq : 34 ∉ x.cps.toList) (hlen : x.cps.size ≤ 900) (h : ∀ s', Now s s' → Q (.bool (closes x.cps.toList)) s') :
    wpAny (model PR w) A (call (.ref 150) [.str x t]) Q E s := by
  refine enter (name := Str.ofString "_law_closes") (i := 63) (binds := [(Str.ofString "stretch", .str x t)]) G f_closes room.lt (fun _ _ => rfl) (locs rfl) fun h₁ cd F => ?_
  have room' := room.deeper (envOf (Str.ofString "_law_closes") (fnScope 63) s.heap.objs.size 150 cd)
  have σ := St.start (tk := s.toks + 1) F
  have hsz : x.length ≤ sizeLine := Nat.le_trans hlen (Nat.le_of_ble_eq_true rfl)
  have fin : ∀ (s' : Shared) m, St s.heap s s.heap.objs.size m [] s' → ∀ b, closes x.cps.toList = b → Q (.bool b) s' := fun s' m σ b e => e ▸ h s' σ.done
  refine wpAny_execs_cons (wpAny_If (wpAny_isTrue_BoolOp (wpAny_allTrue_Or_cons (wpAny_isTrue_Not (wpAny_isTrue_value (ev_call (σ.gc G) t_check f_check (spliced_more (r_name σ rfl (spliced_none ⟨fun _ _ e => e, ?_⟩)))))))))
  refine check_ok (σ.gc G) room' hq (by omega) fun s₂ n₂ => wpAny_truthy_bool ?_
  have σ₂ := σ.now n₂
  clear n₂ σ
  unfold closes at fin
  cases hc : check x.cps.toList with
  | false =>
    simp only [Bool.not_false, if_true]
    refine wpAny_execs_cons (wpAny_Return_some (wpAny_Constant_bool ?_))
    exact fin _ _ σ₂ _ (by simp [hc])
  | true =>
    simp only [Bool.not_true, Bool.false_eq_true, if_false]
    refine wpAny_allTrue_Or_cons (wpAny_isTrue_value (ev_call (σ₂.gc G) t_check f_check (spliced_more (r_slice (lo := none) (hi := some (-1)) hsz (fun Q' k => r_name σ₂ rfl (k _ _ σ₂ rfl)) (fun s₁ Q' σ₁ e₁ k => part_none σ₁ k)
      (fun s₁ Q' σ₁ e₁ k => part_some k fun Q'' k' => wpAny_UnaryOp (r_int σ₁ fun t s₂ σ₂ e₂ => neg_int (k' _ _ σ₂.tk (by rw [← e₂]; exact fun _ _ e => e)))) (fun t s₃ σ₃ e₃ => spliced_none ⟨e₃, ?_⟩)))))
    have hq₂ : 34 ∉ (Txt.slice x none (some (-1))).cps.toList := by rw [slice_init]; exact fun z => hq ((List.dropLast_sublist _).subset z)
    have hl₂ : (Txt.slice x none (some (-1))).cps.size ≤ x.cps.size := Txt.slice_le x _ _
    refine check_ok (σ₃.gc G) room' hq₂ (by omega) fun s₄ n₄ => wpAny_truthy_bool ?_
    have σ₄ := σ₃.now n₄
    rw [slice_init]
    clear n₄ σ₃ σ₂ e₃
    cases hc2 : check x.cps.toList.dropLast with
    | true =>
      simp only [if_true]
      refine wpAny_execs_cons (wpAny_Return_some (wpAny_Constant_bool ?_))
      exact fin _ _ σ₄ _ (by simp [hc, hc2])
    | false =>
      simp only [Bool.false_eq_true, if_false]
      refine wpAny_allTrue_Or_nil ?_
      simp only [Bool.false_eq_true, if_false]
      refine wpAny_execs_nil ?_
      refine wpAny_execs_cons (wpAny_Return_some (wpAny_UnaryOp (ev_call (σ₄.gc G) t_check f_check (spliced_more (wpAny_BinOp (r_slice (lo := some 1) (hi := none) hsz (fun Q' k => r_name σ₄ rfl (k _ _ σ₄ rfl))
        (fun s₁ Q' σ₁ e₁ k => part_some k fun Q'' k' => r_int σ₁ fun t s₂ σ₂ e₂ => k' _ _ σ₂ (by rw [← e₂]; exact fun _ _ e => e)) (fun s₁ Q' σ₁ e₁ k => part_none σ₁ k) (fun t s₃ σ₃ e₃ => r_str σ₃ fun t6 s₅ σ₅ e₅ => add_str (fun t7 tk7 => spliced_none ⟨by rw [← e₅] at e₃; exact e₃, ?_⟩) ?_)))))))
      · have hl₃ : (Txt.slice x (some 1) none ++ Str.ofString "(").cps.toList = x.cps.toList.tail ++ [40] := by
          show ((Txt.slice x (some 1) none).cps ++ #[40]).toList = _
          rw [Array.toList_append, slice_tail]
        have hq₃ : 34 ∉ (Txt.slice x (some 1) none ++ Str.ofString "(").cps.toList := by
          rw [hl₃]; intro z
          rcases List.mem_append.mp z with z | z
          · exact hq (List.mem_of_mem_tail z)
          · simp at z
        have hz₃ : (Txt.slice x (some 1) none ++ Str.ofString "(").cps.size ≤ x.cps.size + 1 := by
          rw [← Array.length_toList, hl₃]; simp
        refine check_ok (σ₅.tk.gc G) room' hq₃ (by omega) fun s₆ n₆ => not_of (wpAny_truthy_bool ?_)
        refine fin _ _ (σ₅.tk.now n₆) _ ?_
        rw [hl₃]
        simp [hc, hc2]
      · have := Txt.slice_le x (some 1) none
        show (Txt.slice x (some 1) none).length + 1 ≤ sizeLine
        have h3 : x.length ≤ 900 := hlen
        have : (901 : Nat) ≤ sizeLine := Nat.le_of_ble_eq_true rfl
        omega
end
end Mine

namespace Mine
def cBody : List Stmt := match PR.main.body[7]? with | some (Stmt.ClassDef (body := b) ..) => b | _ => []
def cArgs (i : Nat) : Arguments := match cBody[i]? with | some (.FunctionDef _ a _ _ _ _ _ _ _ _) => a | _ => default
def cFn (i : Nat) : List Stmt := match cBody[i]? with | some (.FunctionDef _ _ b _ _ _ _ _ _ _) => b | _ => []
def cScope (i : Nat) : Scope := match cBody[i]? with | some (.FunctionDef _ _ _ _ _ _ sc _ _ _) => sc | _ => default
abbrev pmv : Value := .str (Str.ofString "cpy313.email.header") 228
abbrev cFd (nm q : Str) (i : Nat) (dV : Value) (cd : Addr) (ct : Value) : FuncData := ksFn nm q (cArgs i) (cFn i) (cScope i) dV .none .none pmv none (.ref cd) ct 46
abbrev fObj (fd : FuncData) : Obj := ⟨.type "function", none, .func fd, #[]⟩
abbrev fPc : FuncData := cFd (Str.ofString "part_count") (Str.ofString "_Accumulator.part_count") 8 .none 118 (.ref 112)
abbrev fPop : FuncData := cFd (Str.ofString "pop") (Str.ofString "_Accumulator.pop") 3 .none 81 (.ref 75)
abbrev fIn : FuncData := cFd (Str.ofString "__init__") (Str.ofString "_Accumulator.__init__") 0 (.ref 51) 58 (.ref 52)
abbrev fPush : FuncData := fnX (Str.ofString "push") (Str.ofString "_Accumulator.push") (cArgs 1) (cFn 1) (cScope 1) [] .none .none .none pmv none (.ref 65) .none
/-- the objects of the top that the proof leans on -/
def KS : Params → Frag := fun P => [
  (2, { cls := Value.none, data := Data.dict #[] }),
  (3, { cls := Value.type "dict", data := Data.dict #[{ hash := PyData.keyHash P (Str.ofString "__name__"), key := Value.str (Str.ofString "__name__") 165, val := Value.str (Str.ofString "law_wf0056_01") 540 }, { hash := PyData.keyHash P (Str.ofString "__doc__"), key := Value.str (Str.ofString "__doc__") 166, val := Value.none }, { hash := PyData.keyHash P (Str.ofString "__package__"), key := Value.str (Str.ofString "__package__") 167, val := Value.none }, { hash := PyData.keyHash P (Str.ofString "__loader__"), key := Value.str (Str.ofString "__loader__") 168, val := Value.builtin "__main__.__loader__#opaque" }, { hash := PyData.keyHash P (Str.ofString "__spec__"), key := Value.str (Str.ofString "__spec__") 169, val := Value.none }, { hash := PyData.keyHash P (Str.ofString "__annotations__"), key := Value.str (Str.ofString "__annotations__") 170, val := Value.ref 6 }, { hash := PyData.keyHash P (Str.ofString "__builtins__"), key := Value.str (Str.ofString "__builtins__") 171, val := Value.ref 4 }, { hash := PyData.keyHash P (Str.ofString "__file__"), key := Value.str (Str.ofString "__file__") 173, val := Value.str (Str.ofString "/claim/cut.py") 172 }, { hash := PyData.keyHash P (Str.ofString "__cached__"), key := Value.str (Str.ofString "__cached__") 174, val := Value.none }, { hash := PyData.keyHash P (Str.ofString "_wall"), key := Value.str (Str.ofString "_wall") 193, val := Value.ref 21 }, { hash := PyData.keyHash P (Str.ofString "_iter_escaped_chars"), key := Value.str (Str.ofString "_iter_escaped_chars") 205, val := Value.ref 28 }, { hash := PyData.keyHash P (Str.ofString "_strip_quoted_realnames"), key := Value.str (Str.ofString "_strip_quoted_realnames") 217, val := Value.ref 35 }, { hash := PyData.keyHash P (Str.ofString "_check_parenthesis"), key := Value.str (Str.ofString "_check_parenthesis") 227, val := Value.ref 42 }, { hash := PyData.keyHash P (Str.ofString "EMPTYSTRING"), key := Value.str (Str.ofString "EMPTYSTRING") 231, val := Value.str (Str.ofString "") 230 }, { hash := PyData.keyHash P (Str.ofString "_Accumulator"), key := Value.str (Str.ofString "_Accumulator") 326, val := Value.ref 122 }, { hash := PyData.keyHash P (Str.ofString "ENDMARKER"), key := Value.str (Str.ofString "ENDMARKER") 330, val := Value.int 0 329 }, { hash := PyData.keyHash P (Str.ofString "LPAR"), key := Value.str (Str.ofString "LPAR") 332, val := Value.int 7 331 }, { hash := PyData.keyHash P (Str.ofString "RPAR"), key := Value.str (Str.ofString "RPAR") 334, val := Value.int 8 333 }, { hash := PyData.keyHash P (Str.ofString "LSQB"), key := Value.str (Str.ofString "LSQB") 336, val := Value.int 9 335 }, { hash := PyData.keyHash P (Str.ofString "RSQB"), key := Value.str (Str.ofString "RSQB") 338, val := Value.int 10 337 }, { hash := PyData.keyHash P (Str.ofString "COLON"), key := Value.str (Str.ofString "COLON") 340, val := Value.int 11 339 }, { hash := PyData.keyHash P (Str.ofString "COMMA"), key := Value.str (Str.ofString "COMMA") 342, val := Value.int 12 341 }, { hash := PyData.keyHash P (Str.ofString "SEMI"), key := Value.str (Str.ofString "SEMI") 344, val := Value.int 13 343 }, { hash := PyData.keyHash P (Str.ofString "PLUS"), key := Value.str (Str.ofString "PLUS") 346, val := Value.int 14 345 }, { hash := PyData.keyHash P (Str.ofString "MINUS"), key := Value.str (Str.ofString "MINUS") 348, val := Value.int 15 347 }, { hash := PyData.keyHash P (Str.ofString "STAR"), key := Value.str (Str.ofString "STAR") 350, val := Value.int 16 349 }, { hash := PyData.keyHash P (Str.ofString "SLASH"), key := Value.str (Str.ofString "SLASH") 352, val := Value.int 17 351 }, { hash := PyData.keyHash P (Str.ofString "VBAR"), key := Value.str (Str.ofString "VBAR") 354, val := Value.int 18 353 }, { hash := PyData.keyHash P (Str.ofString "AMPER"), key := Value.str (Str.ofString "AMPER") 356, val := Value.int 19 355 }, { hash := PyData.keyHash P (Str.ofString "LESS"), key := Value.str (Str.ofString "LESS") 358, val := Value.int 20 357 }, { hash := PyData.keyHash P (Str.ofString "GREATER"), key := Value.str (Str.ofString "GREATER") 360, val := Value.int 21 359 }, { hash := PyData.keyHash P (Str.ofString "EQUAL"), key := Value.str (Str.ofString "EQUAL") 362, val := Value.int 22 361 }, { hash := PyData.keyHash P (Str.ofString "DOT"), key := Value.str (Str.ofString "DOT") 364, val := Value.int 23 363 }, { hash := PyData.keyHash P (Str.ofString "PERCENT"), key := Value.str (Str.ofString "PERCENT") 366, val := Value.int 24 365 }, { hash := PyData.keyHash P (Str.ofString "LBRACE"), key := Value.str (Str.ofString "LBRACE") 368, val := Value.int 25 367 }, { hash := PyData.keyHash P (Str.ofString "RBRACE"), key := Value.str (Str.ofString "RBRACE") 370, val := Value.int 26 369 }, { hash := PyData.keyHash P (Str.ofString "EQEQUAL"), key := Value.str (Str.ofString "EQEQUAL") 372, val := Value.int 27 371 }, { hash := PyData.keyHash P (Str.ofString "NOTEQUAL"), key := Value.str (Str.ofString "NOTEQUAL") 374, val := Value.int 28 373 }, { hash := PyData.keyHash P (Str.ofString "LESSEQUAL"), key := Value.str (Str.ofString "LESSEQUAL") 376, val := Value.int 29 375 }, { hash := PyData.keyHash P (Str.ofString "GREATEREQUAL"), key := Value.str (Str.ofString "GREATEREQUAL") 378, val := Value.int 30 377 }, { hash := PyData.keyHash P (Str.ofString "TILDE"), key := Value.str (Str.ofString "TILDE") 380, val := Value.int 31 379 }, { hash := PyData.keyHash P (Str.ofString "CIRCUMFLEX"), key := Value.str (Str.ofString "CIRCUMFLEX") 382, val := Value.int 32 381 }, { hash := PyData.keyHash P (Str.ofString "LEFTSHIFT"), key := Value.str (Str.ofString "LEFTSHIFT") 384, val := Value.int 33 383 }, { hash := PyData.keyHash P (Str.ofString "RIGHTSHIFT"), key := Value.str (Str.ofString "RIGHTSHIFT") 386, val := Value.int 34 385 }, { hash := PyData.keyHash P (Str.ofString "DOUBLESTAR"), key := Value.str (Str.ofString "DOUBLESTAR") 388, val := Value.int 35 387 }, { hash := PyData.keyHash P (Str.ofString "PLUSEQUAL"), key := Value.str (Str.ofString "PLUSEQUAL") 390, val := Value.int 36 389 }, { hash := PyData.keyHash P (Str.ofString "MINEQUAL"), key := Value.str (Str.ofString "MINEQUAL") 392, val := Value.int 37 391 }, { hash := PyData.keyHash P (Str.ofString "STAREQUAL"), key := Value.str (Str.ofString "STAREQUAL") 394, val := Value.int 38 393 }, { hash := PyData.keyHash P (Str.ofString "SLASHEQUAL"), key := Value.str (Str.ofString "SLASHEQUAL") 396, val := Value.int 39 395 }, { hash := PyData.keyHash P (Str.ofString "PERCENTEQUAL"), key := Value.str (Str.ofString "PERCENTEQUAL") 398, val := Value.int 40 397 }, { hash := PyData.keyHash P (Str.ofString "AMPEREQUAL"), key := Value.str (Str.ofString "AMPEREQUAL") 400, val := Value.int 41 399 }, { hash := PyData.keyHash P (Str.ofString "VBAREQUAL"), key := Value.str (Str.ofString "VBAREQUAL") 402, val := Value.int 42 401 }, { hash := PyData.keyHash P (Str.ofString "CIRCUMFLEXEQUAL"), key := Value.str (Str.ofString "CIRCUMFLEXEQUAL") 404, val := Value.int 43 403 }, { hash := PyData.keyHash P (Str.ofString "LEFTSHIFTEQUAL"), key := Value.str (Str.ofString "LEFTSHIFTEQUAL") 406, val := Value.int 44 405 }, { hash := PyData.keyHash P (Str.ofString "RIGHTSHIFTEQUAL"), key := Value.str (Str.ofString "RIGHTSHIFTEQUAL") 408, val := Value.int 45 407 }, { hash := PyData.keyHash P (Str.ofString "DOUBLESTAREQUAL"), key := Value.str (Str.ofString "DOUBLESTAREQUAL") 410, val := Value.int 46 409 }, { hash := PyData.keyHash P (Str.ofString "DOUBLESLASH"), key := Value.str (Str.ofString "DOUBLESLASH") 412, val := Value.int 47 411 }, { hash := PyData.keyHash P (Str.ofString "DOUBLESLASHEQUAL"), key := Value.str (Str.ofString "DOUBLESLASHEQUAL") 414, val := Value.int 48 413 }, { hash := PyData.keyHash P (Str.ofString "AT"), key := Value.str (Str.ofString "AT") 416, val := Value.int 49 415 }, { hash := PyData.keyHash P (Str.ofString "ATEQUAL"), key := Value.str (Str.ofString "ATEQUAL") 418, val := Value.int 50 417 }, { hash := PyData.keyHash P (Str.ofString "RARROW"), key := Value.str (Str.ofString "RARROW") 420, val := Value.int 51 419 }, { hash := PyData.keyHash P (Str.ofString "ELLIPSIS"), key := Value.str (Str.ofString "ELLIPSIS") 422, val := Value.int 52 421 }, { hash := PyData.keyHash P (Str.ofString "COLONEQUAL"), key := Value.str (Str.ofString "COLONEQUAL") 424, val := Value.int 53 423 }, { hash := PyData.keyHash P (Str.ofString "EXCLAMATION"), key := Value.str (Str.ofString "EXCLAMATION") 426, val := Value.int 54 425 }, { hash := PyData.keyHash P (Str.ofString "NT_OFFSET"), key := Value.str (Str.ofString "NT_OFFSET") 428, val := Value.int 256 427 }, { hash := PyData.keyHash P (Str.ofString "EXACT_TOKEN_TYPES"), key := Value.str (Str.ofString "EXACT_TOKEN_TYPES") 525, val := Value.ref 127 }, { hash := PyData.keyHash P (Str.ofString "ISTERMINAL"), key := Value.str (Str.ofString "ISTERMINAL") 532, val := Value.ref 136 }, { hash := PyData.keyHash P (Str.ofString "ISEOF"), key := Value.str (Str.ofString "ISEOF") 539, val := Value.ref 143 }, { hash := PyData.keyHash P (Str.ofString "_law_closes"), key := Value.str (Str.ofString "_law_closes") 548, val := Value.ref 150 }, { hash := PyData.keyHash P (Str.ofString "_law_searched"), key := Value.str (Str.ofString "_law_searched") 567, val := Value.ref 157 }, { hash := PyData.keyHash P (Str.ofString "_law_drawn"), key := Value.str (Str.ofString "_law_drawn") 582, val := Value.ref 164 }, { hash := PyData.keyHash P (Str.ofString "_law_worth"), key := Value.str (Str.ofString "_law_worth") 588, val := Value.ref 169 }, { hash := PyData.keyHash P (Str.ofString "_law_due"), key := Value.str (Str.ofString "_law_due") 602, val := Value.ref 176 }, { hash := PyData.keyHash P (Str.ofString "law"), key := Value.str (Str.ofString "law") 608, val := Value.ref 181 }] 74 }),
  (27, { cls := Value.type "code", data := Data.fields #[Value.str (Str.ofString "_iter_escaped_chars") 196, Value.str (Str.ofString "_iter_escaped_chars") 197, Value.str (Str.ofString "/claim/cut.py") 198, Value.int 5 0, Value.int 1 0, Value.int 0 0, Value.int 0 0, Value.int 35 0, Value.ref 22, Value.bool true, Value.int 181 0, Value.ref 23, Value.none, Value.ref 24, Value.ref 25, Value.ref 26, Value.int 203 0, Value.int 5 0, Value.str (Str.ofString "/claim/cut.py") 204] }),
  ((28 : Addr), fObj (Calls.docDef (Str.ofString "_iter_escaped_chars") (fnArgs 2) (fnBody 2) (fnScope 2) (Value.str (Str.ofString "cpy313.email.utils") 194) (Value.ref 27) .none)),
  (34, { cls := Value.type "code", data := Data.fields #[Value.str (Str.ofString "_strip_quoted_realnames") 206, Value.str (Str.ofString "_strip_quoted_realnames") 207, Value.str (Str.ofString "/claim/cut.py") 208, Value.int 18 0, Value.int 1 0, Value.int 0 0, Value.int 0 0, Value.int 3 0, Value.ref 29, Value.bool true, Value.int 181 0, Value.ref 30, Value.none, Value.ref 31, Value.ref 32, Value.ref 33, Value.int 215 0, Value.int 18 0, Value.str (Str.ofString "/claim/cut.py") 216] }),
  ((35 : Addr), fObj (Calls.docDef (Str.ofString "_strip_quoted_realnames") (fnArgs 3) (fnBody 3) (fnScope 3) (Value.str (Str.ofString "cpy313.email.utils") 194) (Value.ref 34) .none)),
  (41, { cls := Value.type "code", data := Data.fields #[Value.str (Str.ofString "_check_parenthesis") 218, Value.str (Str.ofString "_check_parenthesis") 219, Value.str (Str.ofString "/claim/cut.py") 220, Value.int 36 0, Value.int 1 0, Value.int 0 0, Value.int 0 0, Value.int 3 0, Value.ref 36, Value.bool true, Value.int 181 0, Value.ref 37, Value.none, Value.ref 38, Value.ref 39, Value.ref 40, Value.int 225 0, Value.int 36 0, Value.str (Str.ofString "/claim/cut.py") 226] }),
  ((42 : Addr), fObj (Calls.docDef (Str.ofString "_check_parenthesis") (fnArgs 4) (fnBody 4) (fnScope 4) (Value.str (Str.ofString "cpy313.email.utils") 194) (Value.ref 41) .none)),
  (46, { cls := Value.type "cell", data := Data.cell (some (Value.ref 122)) }),
  (51, { cls := Value.type "tuple", data := Data.seq #[Value.int 0 244] }),
  (52, { cls := Value.type "tuple", data := Data.seq #[Value.ref 46] }),
  (58, { cls := Value.type "code", data := Data.fields #[Value.str (Str.ofString "__init__") 245, Value.str (Str.ofString "_Accumulator.__init__") 246, Value.str (Str.ofString "/claim/cut.py") 247, Value.int 51 0, Value.int 2 0, Value.int 0 0, Value.int 0 0, Value.int 3 0, Value.ref 53, Value.bool true, Value.int 181 0, Value.ref 54, Value.none, Value.ref 55, Value.ref 56, Value.ref 57, Value.int 251 0, Value.int 51 0, Value.str (Str.ofString "/claim/cut.py") 252] }),
  ((59 : Addr), fObj fIn),
  (65, { cls := Value.type "code", data := Data.fields #[Value.str (Str.ofString "push") 254, Value.str (Str.ofString "_Accumulator.push") 255, Value.str (Str.ofString "/claim/cut.py") 256, Value.int 55 0, Value.int 3 0, Value.int 0 0, Value.int 0 0, Value.int 3 0, Value.ref 60, Value.bool true, Value.int 181 0, Value.ref 61, Value.none, Value.ref 62, Value.ref 63, Value.ref 64, Value.int 260 0, Value.int 55 0, Value.str (Str.ofString "/claim/cut.py") 261] }),
  ((66 : Addr), fObj fPush),
  (75, { cls := Value.type "tuple", data := Data.seq #[Value.ref 46] }),
  (81, { cls := Value.type "code", data := Data.fields #[Value.str (Str.ofString "pop") 272, Value.str (Str.ofString "_Accumulator.pop") 273, Value.str (Str.ofString "/claim/cut.py") 274, Value.int 61 0, Value.int 1 0, Value.int 0 0, Value.int 0 0, Value.int 3 0, Value.ref 76, Value.bool true, Value.int 181 0, Value.ref 77, Value.none, Value.ref 78, Value.ref 79, Value.ref 80, Value.int 277 0, Value.int 61 0, Value.str (Str.ofString "/claim/cut.py") 278] }),
  ((82 : Addr), fObj fPop),
  (112, { cls := Value.type "tuple", data := Data.seq #[Value.ref 46] }),
  (118, { cls := Value.type "code", data := Data.fields #[Value.str (Str.ofString "part_count") 309, Value.str (Str.ofString "_Accumulator.part_count") 310, Value.str (Str.ofString "/claim/cut.py") 311, Value.int 78 0, Value.int 1 0, Value.int 0 0, Value.int 0 0, Value.int 3 0, Value.ref 113, Value.bool true, Value.int 181 0, Value.ref 114, Value.none, Value.ref 115, Value.ref 116, Value.ref 117, Value.int 314 0, Value.int 78 0, Value.str (Str.ofString "/claim/cut.py") 315] }),
  ((119 : Addr), fObj fPc),
  (121, { cls := Value.type "dict", data := Data.dict #[{ hash := PyData.keyHash P (Str.ofString "__module__"), key := Value.str (Str.ofString "__module__") 239, val := Value.str (Str.ofString "cpy313.email.header") 228 }, { hash := PyData.keyHash P (Str.ofString "__firstlineno__"), key := Value.str (Str.ofString "__firstlineno__") 243, val := Value.int 49 242 }, { hash := PyData.keyHash P (Str.ofString "__init__"), key := Value.str (Str.ofString "__init__") 253, val := Value.ref 59 }, { hash := PyData.keyHash P (Str.ofString "push"), key := Value.str (Str.ofString "push") 262, val := Value.ref 66 }, { hash := PyData.keyHash P (Str.ofString "pop_from"), key := Value.str (Str.ofString "pop_from") 271, val := Value.ref 74 }, { hash := PyData.keyHash P (Str.ofString "pop"), key := Value.str (Str.ofString "pop") 279, val := Value.ref 82 }, { hash := PyData.keyHash P (Str.ofString "__len__"), key := Value.str (Str.ofString "__len__") 286, val := Value.ref 89 }, { hash := PyData.keyHash P (Str.ofString "__str__"), key := Value.str (Str.ofString "__str__") 293, val := Value.ref 96 }, { hash := PyData.keyHash P (Str.ofString "reset"), key := Value.str (Str.ofString "reset") 301, val := Value.ref 104 }, { hash := PyData.keyHash P (Str.ofString "is_onlyws"), key := Value.str (Str.ofString "is_onlyws") 308, val := Value.ref 111 }, { hash := PyData.keyHash P (Str.ofString "part_count"), key := Value.str (Str.ofString "part_count") 316, val := Value.ref 119 }, { hash := PyData.keyHash P (Str.ofString "__static_attributes__"), key := Value.str (Str.ofString "__static_attributes__") 318, val := Value.ref 120 }, { hash := PyData.keyHash P (Str.ofString "__dict__"), key := Value.str (Str.ofString "__dict__") 321, val := Value.ref 123 }, { hash := PyData.keyHash P (Str.ofString "__weakref__"), key := Value.str (Str.ofString "__weakref__") 323, val := Value.ref 124 }, { hash := PyData.keyHash P (Str.ofString "__doc__"), key := Value.str (Str.ofString "__doc__") 324, val := Value.none }] 5 }),
  (122, { cls := Value.type "type", data := Data.cls { name := Str.ofString "_Accumulator", bases := [Value.type "list"], mro := [Value.ref 122, Value.type "list", Value.type "object"], ns := 121, qualname := Str.ofString "_Accumulator" }, slots := #[some (Value.ref 43), none, some (Value.str (Str.ofString "_Accumulator") 232), some (Value.str (Str.ofString "_Accumulator") 240), some (Value.builtin "list.__new__"), some (Value.bool true)] }),
  (127, { cls := Value.type "dict", data := Data.dict #[{ hash := PyData.keyHash P (Str.ofString "!"), key := Value.str (Str.ofString "!") 429, val := Value.int 54 425 }, { hash := PyData.keyHash P (Str.ofString "!="), key := Value.str (Str.ofString "!=") 431, val := Value.int 28 373 }, { hash := PyData.keyHash P (Str.ofString "%"), key := Value.str (Str.ofString "%") 433, val := Value.int 24 365 }, { hash := PyData.keyHash P (Str.ofString "%="), key := Value.str (Str.ofString "%=") 435, val := Value.int 40 397 }, { hash := PyData.keyHash P (Str.ofString "&"), key := Value.str (Str.ofString "&") 437, val := Value.int 19 355 }, { hash := PyData.keyHash P (Str.ofString "&="), key := Value.str (Str.ofString "&=") 439, val := Value.int 41 399 }, { hash := PyData.keyHash P (Str.ofString "("), key := Value.str (Str.ofString "(") 441, val := Value.int 7 331 }, { hash := PyData.keyHash P (Str.ofString ")"), key := Value.str (Str.ofString ")") 443, val := Value.int 8 333 }, { hash := PyData.keyHash P (Str.ofString "*"), key := Value.str (Str.ofString "*") 445, val := Value.int 16 349 }, { hash := PyData.keyHash P (Str.ofString "**"), key := Value.str (Str.ofString "**") 447, val := Value.int 35 387 }, { hash := PyData.keyHash P (Str.ofString "**="), key := Value.str (Str.ofString "**=") 449, val := Value.int 46 409 }, { hash := PyData.keyHash P (Str.ofString "*="), key := Value.str (Str.ofString "*=") 451, val := Value.int 38 393 }, { hash := PyData.keyHash P (Str.ofString "+"), key := Value.str (Str.ofString "+") 453, val := Value.int 14 345 }, { hash := PyData.keyHash P (Str.ofString "+="), key := Value.str (Str.ofString "+=") 455, val := Value.int 36 389 }, { hash := PyData.keyHash P (Str.ofString ","), key := Value.str (Str.ofString ",") 457, val := Value.int 12 341 }, { hash := PyData.keyHash P (Str.ofString "-"), key := Value.str (Str.ofString "-") 459, val := Value.int 15 347 }, { hash := PyData.keyHash P (Str.ofString "-="), key := Value.str (Str.ofString "-=") 461, val := Value.int 37 391 }, { hash := PyData.keyHash P (Str.ofString "->"), key := Value.str (Str.ofString "->") 463, val := Value.int 51 419 }, { hash := PyData.keyHash P (Str.ofString "."), key := Value.str (Str.ofString ".") 465, val := Value.int 23 363 }, { hash := PyData.keyHash P (Str.ofString "..."), key := Value.str (Str.ofString "...") 467, val := Value.int 52 421 }, { hash := PyData.keyHash P (Str.ofString "/"), key := Value.str (Str.ofString "/") 469, val := Value.int 17 351 }, { hash := PyData.keyHash P (Str.ofString "//"), key := Value.str (Str.ofString "//") 471, val := Value.int 47 411 }, { hash := PyData.keyHash P (Str.ofString "//="), key := Value.str (Str.ofString "//=") 473, val := Value.int 48 413 }, { hash := PyData.keyHash P (Str.ofString "/="), key := Value.str (Str.ofString "/=") 475, val := Value.int 39 395 }, { hash := PyData.keyHash P (Str.ofString ":"), key := Value.str (Str.ofString ":") 477, val := Value.int 11 339 }, { hash := PyData.keyHash P (Str.ofString ":="), key := Value.str (Str.ofString ":=") 479, val := Value.int 53 423 }, { hash := PyData.keyHash P (Str.ofString ";"), key := Value.str (Str.ofString ";") 481, val := Value.int 13 343 }, { hash := PyData.keyHash P (Str.ofString "<"), key := Value.str (Str.ofString "<") 483, val := Value.int 20 357 }, { hash := PyData.keyHash P (Str.ofString "<<"), key := Value.str (Str.ofString "<<") 485, val := Value.int 33 383 }, { hash := PyData.keyHash P (Str.ofString "<<="), key := Value.str (Str.ofString "<<=") 487, val := Value.int 44 405 }, { hash := PyData.keyHash P (Str.ofString "<="), key := Value.str (Str.ofString "<=") 489, val := Value.int 29 375 }, { hash := PyData.keyHash P (Str.ofString "="), key := Value.str (Str.ofString "=") 491, val := Value.int 22 361 }, { hash := PyData.keyHash P (Str.ofString "=="), key := Value.str (Str.ofString "==") 493, val := Value.int 27 371 }, { hash := PyData.keyHash P (Str.ofString ">"), key := Value.str (Str.ofString ">") 495, val := Value.int 21 359 }, { hash := PyData.keyHash P (Str.ofString ">="), key := Value.str (Str.ofString ">=") 497, val := Value.int 30 377 }, { hash := PyData.keyHash P (Str.ofString ">>"), key := Value.str (Str.ofString ">>") 498, val := Value.int 34 385 }, { hash := PyData.keyHash P (Str.ofString ">>="), key := Value.str (Str.ofString ">>=") 499, val := Value.int 45 407 }, { hash := PyData.keyHash P (Str.ofString "@"), key := Value.str (Str.ofString "@") 500, val := Value.int 49 415 }, { hash := PyData.keyHash P (Str.ofString "@="), key := Value.str (Str.ofString "@=") 501, val := Value.int 50 417 }, { hash := PyData.keyHash P (Str.ofString "["), key := Value.str (Str.ofString "[") 502, val := Value.int 9 335 }, { hash := PyData.keyHash P (Str.ofString "]"), key := Value.str (Str.ofString "]") 503, val := Value.int 10 337 }, { hash := PyData.keyHash P (Str.ofString "^"), key := Value.str (Str.ofString "^") 504, val := Value.int 32 381 }, { hash := PyData.keyHash P (Str.ofString "^="), key := Value.str (Str.ofString "^=") 505, val := Value.int 43 403 }, { hash := PyData.keyHash P (Str.ofString "{"), key := Value.str (Str.ofString "{") 506, val := Value.int 25 367 }, { hash := PyData.keyHash P (Str.ofString "|"), key := Value.str (Str.ofString "|") 507, val := Value.int 18 353 }, { hash := PyData.keyHash P (Str.ofString "|="), key := Value.str (Str.ofString "|=") 508, val := Value.int 42 401 }, { hash := PyData.keyHash P (Str.ofString "}"), key := Value.str (Str.ofString "}") 509, val := Value.int 26 369 }, { hash := PyData.keyHash P (Str.ofString "~"), key := Value.str (Str.ofString "~") 510, val := Value.int 31 379 }] 48 }),
  (135, { cls := Value.type "code", data := Data.fields #[Value.str (Str.ofString "ISTERMINAL") 526, Value.str (Str.ofString "ISTERMINAL") 527, Value.str (Str.ofString "/claim/cut.py") 528, Value.int 132 0, Value.int 1 0, Value.int 0 0, Value.int 0 0, Value.int 3 0, Value.ref 130, Value.bool true, Value.int 181 0, Value.ref 131, Value.none, Value.ref 132, Value.ref 133, Value.ref 134, Value.int 530 0, Value.int 132 0, Value.str (Str.ofString "/claim/cut.py") 531] }),
  ((136 : Addr), fObj (Calls.docDef (Str.ofString "ISTERMINAL") (fnArgs 60) (fnBody 60) (fnScope 60) (Value.str (Str.ofString "cpy313.token") 327) (Value.ref 135) .none)),
  (142, { cls := Value.type "code", data := Data.fields #[Value.str (Str.ofString "ISEOF") 533, Value.str (Str.ofString "ISEOF") 534, Value.str (Str.ofString "/claim/cut.py") 535, Value.int 134 0, Value.int 1 0, Value.int 0 0, Value.int 0 0, Value.int 3 0, Value.ref 137, Value.bool true, Value.int 181 0, Value.ref 138, Value.none, Value.ref 139, Value.ref 140, Value.ref 141, Value.int 537 0, Value.int 134 0, Value.str (Str.ofString "/claim/cut.py") 538] }),
  ((143 : Addr), fObj (Calls.docDef (Str.ofString "ISEOF") (fnArgs 61) (fnBody 61) (fnScope 61) (Value.str (Str.ofString "cpy313.token") 327) (Value.ref 142) .none)),
  (149, { cls := Value.type "code", data := Data.fields #[Value.str (Str.ofString "_law_closes") 542, Value.str (Str.ofString "_law_closes") 543, Value.str (Str.ofString "/claim/cut.py") 544, Value.int 137 0, Value.int 1 0, Value.int 0 0, Value.int 0 0, Value.int 3 0, Value.ref 144, Value.bool true, Value.int 181 0, Value.ref 145, Value.none, Value.ref 146, Value.ref 147, Value.ref 148, Value.int 546 0, Value.int 137 0, Value.str (Str.ofString "/claim/cut.py") 547] }),
  ((150 : Addr), fObj (Calls.docDef (Str.ofString "_law_closes") (fnArgs 63) (fnBody 63) (fnScope 63) (Value.str (Str.ofString "law_wf0056_01") 540) (Value.ref 149) .none)),
  (156, { cls := Value.type "code", data := Data.fields #[Value.str (Str.ofString "_law_searched") 549, Value.str (Str.ofString "_law_searched") 550, Value.str (Str.ofString "/claim/cut.py") 551, Value.int 141 0, Value.int 1 0, Value.int 0 0, Value.int 0 0, Value.int 3 0, Value.ref 151, Value.bool true, Value.int 181 0, Value.ref 152, Value.none, Value.ref 153, Value.ref 154, Value.ref 155, Value.int 565 0, Value.int 141 0, Value.str (Str.ofString "/claim/cut.py") 566] }),
  ((157 : Addr), fObj (Calls.docDef (Str.ofString "_law_searched") (fnArgs 64) (fnBody 64) (fnScope 64) (Value.str (Str.ofString "law_wf0056_01") 540) (Value.ref 156) .none)),
  (163, { cls := Value.type "code", data := Data.fields #[Value.str (Str.ofString "_law_drawn") 568, Value.str (Str.ofString "_law_drawn") 569, Value.str (Str.ofString "/claim/cut.py") 570, Value.int 177 0, Value.int 1 0, Value.int 0 0, Value.int 0 0, Value.int 3 0, Value.ref 158, Value.bool true, Value.int 181 0, Value.ref 159, Value.none, Value.ref 160, Value.ref 161, Value.ref 162, Value.int 580 0, Value.int 177 0, Value.str (Str.ofString "/claim/cut.py") 581] }),
  ((164 : Addr), fObj (Calls.docDef (Str.ofString "_law_drawn") (fnArgs 65) (fnBody 65) (fnScope 65) (Value.str (Str.ofString "law_wf0056_01") 540) (Value.ref 163) .none)),
  (168, { cls := Value.type "code", data := Data.fields #[Value.str (Str.ofString "_law_worth") 583, Value.str (Str.ofString "_law_worth") 584, Value.str (Str.ofString "/claim/cut.py") 585, Value.int 196 0, Value.int 3 0, Value.int 0 0, Value.int 0 0, Value.int 3 0, Value.ref 165, Value.bool true, Value.int 181 0, Value.ref 166, Value.none, Value.none, Value.none, Value.ref 167, Value.int 586 0, Value.int 196 0, Value.str (Str.ofString "/claim/cut.py") 587] }),
  ((169 : Addr), fObj (Calls.docDef (Str.ofString "_law_worth") (fnArgs 66) (fnBody 66) (fnScope 66) (Value.str (Str.ofString "law_wf0056_01") 540) (Value.ref 168) .none)),
  (175, { cls := Value.type "code", data := Data.fields #[Value.str (Str.ofString "_law_due") 589, Value.str (Str.ofString "_law_due") 590, Value.str (Str.ofString "/claim/cut.py") 591, Value.int 201 0, Value.int 5 0, Value.int 0 0, Value.int 0 0, Value.int 3 0, Value.ref 170, Value.bool true, Value.int 181 0, Value.ref 171, Value.none, Value.ref 172, Value.ref 173, Value.ref 174, Value.int 600 0, Value.int 201 0, Value.str (Str.ofString "/claim/cut.py") 601] }),
  ((176 : Addr), fObj (Calls.docDef (Str.ofString "_law_due") (fnArgs 67) (fnBody 67) (fnScope 67) (Value.str (Str.ofString "law_wf0056_01") 540) (Value.ref 175) .none)),
  (180, { cls := Value.type "code", data := Data.fields #[Value.str (Str.ofString "law") 603, Value.str (Str.ofString "law") 604, Value.str (Str.ofString "/claim/cut.py") 605, Value.int 215 0, Value.int 1 0, Value.int 0 0, Value.int 0 0, Value.int 3 0, Value.ref 177, Value.bool true, Value.int 181 0, Value.ref 178, Value.none, Value.none, Value.none, Value.ref 179, Value.int 606 0, Value.int 215 0, Value.str (Str.ofString "/claim/cut.py") 607] }),
  ((181 : Addr), fObj (Calls.docDef (Str.ofString "law") (fnArgs 68) (fnBody 68) (fnScope 68) (Value.str (Str.ofString "law_wf0056_01") 540) (Value.ref 180) .none))]
end Mine

namespace Mine
def KA : List Addr := [2, 3, 27, 28, 34, 35, 41, 42, 46, 51, 52, 58, 59, 65, 66, 75, 81, 82, 112, 118, 119, 121, 122, 127, 135, 136, 142, 143, 149, 150, 156, 157, 163, 164, 168, 169, 175, 176, 180, 181]
theorem ka_ok (P : Params) : KA = (KS P).map (·.1) := by kernel_rfl
/-- of the text's names only `law` is looked at by the head; all else is in KS -/
def qv : Program := view PR [68]
def looseL : List Str := [Str.ofString "_wall", Str.ofString "_iter_escaped_chars", Str.ofString "_strip_quoted_realnames", Str.ofString "_check_parenthesis", Str.ofString "EMPTYSTRING", Str.ofString "_Accumulator", Str.ofString "ENDMARKER", Str.ofString "LPAR", Str.ofString "RPAR", Str.ofString "LSQB", Str.ofString "RSQB", Str.ofString "COLON", Str.ofString "COMMA", Str.ofString "SEMI", Str.ofString "PLUS", Str.ofString "MINUS", Str.ofString "STAR", Str.ofString "SLASH", Str.ofString "VBAR", Str.ofString "AMPER", Str.ofString "LESS", Str.ofString "GREATER", Str.ofString "EQUAL", Str.ofString "DOT", Str.ofString "PERCENT", Str.ofString "LBRACE", Str.ofString "RBRACE", Str.ofString "EQEQUAL", Str.ofString "NOTEQUAL", Str.ofString "LESSEQUAL", Str.ofString "GREATEREQUAL", Str.ofString "TILDE", Str.ofString "CIRCUMFLEX", Str.ofString "LEFTSHIFT", Str.ofString "RIGHTSHIFT", Str.ofString "DOUBLESTAR", Str.ofString "PLUSEQUAL", Str.ofString "MINEQUAL", Str.ofString "STAREQUAL", Str.ofString "SLASHEQUAL", Str.ofString "PERCENTEQUAL", Str.ofString "AMPEREQUAL", Str.ofString "VBAREQUAL", Str.ofString "CIRCUMFLEXEQUAL", Str.ofString "LEFTSHIFTEQUAL", Str.ofString "RIGHTSHIFTEQUAL", Str.ofString "DOUBLESTAREQUAL", Str.ofString "DOUBLESLASH", Str.ofString "DOUBLESLASHEQUAL", Str.ofString "AT", Str.ofString "ATEQUAL", Str.ofString "RARROW", Str.ofString "ELLIPSIS", Str.ofString "COLONEQUAL", Str.ofString "EXCLAMATION", Str.ofString "NT_OFFSET", Str.ofString "EXACT_TOKEN_TYPES", Str.ofString "ISTERMINAL", Str.ofString "ISEOF", Str.ofString "_law_closes", Str.ofString "_law_searched", Str.ofString "_law_drawn", Str.ofString "_law_worth", Str.ofString "_law_due"]
abbrev PL (w : World) : Prop := (openEnds treeTable PR w 5000).map (fun s => (openSeen qv looseL (importedModules PR.main.body) (fun s => xlAt qv [] s && recOk [] s) true s, KA.map s.heap.get?)) = some (openGood qv looseL, (KS w.params).map fun p => some p.2)
theorem leftF : ∀ w : World, PL (w.withFollow "special-get-raises" false) := by
  intro w
  unfold PL openEnds topFrom
  rw [PySem.W.Fast.te14082659384304107361, PySem.W.Fast.te14364793385576792824, PySem.W.Fast.te4187177175401517315]
  kernel_rfl
theorem leftT : ∀ w : World, PL (w.withFollow "special-get-raises" true) := by
  intro w
  unfold PL openEnds topFrom
  rw [PySem.W.Fast.te14082659384304107361, PySem.W.Fast.te14364793385576792824, PySem.W.Fast.te4187177175401517315]
  kernel_rfl
theorem left_ok : LeftO PR qv looseL (fun s => xlAt qv [] s && recOk [] s) (fun s => KA.map s.heap.get?) (fun w => (KS w.params).map fun p => some p.2) 5000 := fun w => byRow2 "special-get-raises" (P := PL) leftF leftT w
end Mine

namespace Mine
abbrev KF (w : World) : Frag := KS w.params
structure GX (w : World) (mg mb : Str → Option Value) (h : Heap) : Prop where
  gc : GC mg mb h
  kx : (KF w).In h
theorem GX.keeps {w : World} {mg mb : Str → Option Value} {h h' : Heap} (G : GX w mg mb h) (k : Ext h h') : GX w mg mb h' := ⟨G.gc.keeps k, G.kx.keeps k⟩

/-- the pile as an object -/
abbrev accObj (dx : Addr) (its : Array Value) (c : Nat) : Obj := { cls := .ref 122, dict := some dx, data := .seq its c }
structure AccAt (h : Heap) (p : Addr) (its : Array Value) : Prop where
  ex : ∃ dx c od, h.get? p = some (accObj dx its c) ∧ h.get? dx = some od ∧ dx ≠ p ∧ (∃ es n, od = dictOf es n ∧ getL (Str.ofString "append") es = some none ∧ getL (Str.ofString "push") es = some none ∧ getL (Str.ofString "pop") es = some none ∧ getL (Str.ofString "part_count") es = some none)

section
variable {w : World} {A : Around} {mg mb : Str → Option Value} {E : Value → Shared → Prop} {s : Shared}
variable {h : Heap} {g : Array GenState} {d : Drawn} {t : Nat} {os : OsState}

theorem k122 : clsIn (KF w) 122 = some { name := Str.ofString "_Accumulator", bases := [.type "list"], mro := [.ref 122, .type "list", .type "object"], ns := 121, qualname := Str.ofString "_Accumulator" } := by rfl
theorem k_len : alongIn (KF w) (Str.ofString "__len__") [.type "list", .type "object"] = some (some (.builtin "list.__len__")) := by kernel_rfl
theorem k_init : alongIn (KF w) (Str.ofString "__init__") [.type "list", .type "object"] = some (some (.builtin "list.__init__")) := by kernel_rfl
theorem k_pop : alongIn (KF w) (Str.ofString "pop") [.type "list", .type "object"] = some (some (.builtin "list.pop")) := by kernel_rfl
theorem k_opq : nsIn (KF w) cStatics "thirdparty.any" = some none := by rfl
theorem k_push : findIn (KF w) (.ref 122) (Str.ofString "push") = some (some (.ref 66)) := by rfl
theorem k_fpop : findIn (KF w) (.ref 122) (Str.ofString "pop") = some (some (.ref 82)) := by rfl
theorem k_pc : findIn (KF w) (.ref 122) (Str.ofString "part_count") = some (some (.ref 119)) := by rfl
theorem k_app : findIn (KF w) (.ref 122) (Str.ofString "append") = some (some (.builtin "list.append")) := by kernel_rfl
theorem k_ga : findIn (KF w) (.ref 122) (Str.ofString "__getattribute__") = some (some (.builtin "list.__getattribute__")) := by kernel_rfl
theorem k_gt : findIn (KF w) (.ref 122) (Str.ofString "__getattr__") = some none := by kernel_rfl
theorem k_sa : findIn (KF w) (.ref 122) (Str.ofString "__setattr__") = some (some (.builtin "object.__setattr__")) := by kernel_rfl
theorem k_gi : findIn (KF w) (.ref 122) (Str.ofString "__getitem__") = some (some (.builtin "list.__getitem__")) := by kernel_rfl
theorem k_is : findIn (KF w) (.ref 122) (Str.ofString "_initial_size") = some none := by kernel_rfl
theorem k_in : findIn (KF w) (.ref 122) (Str.ofString "__init__") = some (some (.ref 59)) := by kernel_rfl
theorem k_call : specialIn (KF w) (.ref 122) "__call__" = some (some (.builtin "type.__call__")) := by kernel_rfl
theorem k_inst : instIn (KF w) (.ref 122) (.type "type") = some true := by kernel_rfl
theorem k_sup : nsIn (KF w) mainGlobals "super" = some none := by rfl

abbrev supObj (x : Addr) : Obj := { cls := .type "super", dict := none, data := .fields #[.ref 122, .ref x, .ref 122], slots := #[] }
theorem looks_mro (X : (KF w).In h) : Looks (model PR w) h (mroOf (.ref 122)) [.ref 122, .type "list", .type "object"] := fun A Q E s k q => wpAny_bind ((looks_clsIn X k122) A _ E s k (wpAny_pure q))

theorem sup_ga {so x : Addr} {name : Str} {tk : Tok} {id : String} {dt : String} {gt : Value} {Q : Fin → Shared → Prop} (hso : h.get? so = some (supObj x)) (X : (KF w).In h)
    (hf : alongIn (KF w) name [.type "list", .type "object"] = some (some (.builtin id))) (hx : x ≠ 122) (hn : (name == ("__class__" : Str)) = false)
    (hty : typeOf (.builtin id) = pure (.type dt)) (hlk : typeLookup (.type dt) "__get__" = pure (some gt))
    (hget : wpAny (model PR w) A (call gt [.builtin id, .ref x, .ref 122]) (fun v s' => Q (.done (.ret v)) s') E ⟨h, g, d, t, os⟩) :
    wpAny (model PR w) A (Builtin.«super.__getattribute__» ⟨[.ref so, .str name tk], []⟩) Q E ⟨h, g, d, t, os⟩ := by
  have hne : (Value.ref x == Value.ref 122) = false := by simp [hx]
  have hdt : (supObj x).data = .fields #[.ref 122, .ref x, .ref 122] := rfl
  have f0 : (#[.ref 122, .ref x, .ref 122] : Array Value)[0]? = some (.ref 122) := rfl
  have f1 : (#[.ref 122, .ref x, .ref 122] : Array Value)[1]? = some (.ref x) := rfl
  have f2 : (#[.ref 122, .ref x, .ref 122] : Array Value)[2]? = some (.ref 122) := rfl
  have hno := looks_opaque (M := model PR w) (C := 122) X k_opq
  have hC := looks_mro X
  have hl : (([.ref 122, .type "list", .type "object"] : List Value).dropWhile (· != .ref 122)).drop 1 = [.type "list", .type "object"] := by decide
  unfold Builtin.«super.__getattribute__»
  repeat (first
    | (with_reducible refine wpAny_field hso hdt f0 ?_) | (with_reducible refine wpAny_field hso hdt f1 ?_) | (with_reducible refine wpAny_field hso hdt f2 ?_)
    | (with_reducible refine ks_wpAny_notOpaque hno ?_)
    | (with_reducible refine Looks.at hC ?_; rw [hl])
    | (refine ks_forIn_along X (fun _ _ => rfl) rfl ?_ hf)
    | (with_reducible refine wpAny_of_eq hty ?_)
    | (with_reducible refine wpAny_of_eq hlk ?_)
    | (with_reducible refine wpAny_mono hget (fun _ _ z => ?_) fun _ _ z => z)
    | (simp only [hn, hne, Bool.or_false, Bool.false_eq_true, if_false])
    | wp_step
    | dsimp only)
  all_goals assumption

theorem own_pop : (kfb_private% "ownerAndName") "list.pop" = ("list", "pop") := by first | decide +kernel | kernel_rfl
theorem own_len : (kfb_private% "ownerAndName") "list.__len__" = ("list", "__len__") := by first | decide +kernel | kernel_rfl
theorem own_init : (kfb_private% "ownerAndName") "list.__init__" = ("list", "__init__") := by first | decide +kernel | kernel_rfl
theorem slot_md : Slot "method_descriptor" "__get__" "method_descriptor.__get__" :=
  .of (owner := "method_descriptor") (n := "__get__") (by rw [typeLookup_type, builtinLookup_eq_fast]; kernel_rfl) (by decide +kernel) (by decide +kernel) (by decide +kernel)
    (by first | exact .inl (by decide +kernel) | exact .inr (by decide +kernel)) (by rw [isSubtype_type]; kernel_rfl)
theorem slot_wd : Slot "wrapper_descriptor" "__get__" "wrapper_descriptor.__get__" :=
  .of (owner := "wrapper_descriptor") (n := "__get__") (by rw [typeLookup_type, builtinLookup_eq_fast]; kernel_rfl) (by decide +kernel) (by decide +kernel) (by decide +kernel)
    (by first | exact .inl (by decide +kernel) | exact .inr (by decide +kernel)) (by rw [isSubtype_type]; kernel_rfl)
theorem entry_md : entryFor table "method_descriptor.__get__" = some Builtin.«method_descriptor.__get__» := entryFor_of_tree (by kernel_rfl)
theorem entry_wd : entryFor table "wrapper_descriptor.__get__" = some Builtin.«wrapper_descriptor.__get__» := entryFor_of_tree (by kernel_rfl)
theorem args_md (a b c : Value) : argsOk "method_descriptor.__get__" ⟨[a, b, c], []⟩ := by unfold argsOk; kernel_rfl
theorem args_wd (a b c : Value) : argsOk "wrapper_descriptor.__get__" ⟨[a, b, c], []⟩ := by unfold argsOk; kernel_rfl
theorem ty_pop : typeOf (.builtin "list.pop") = pure (.type "method_descriptor") := by show builtinType _ = _; rw [builtinType_eq_fast]; kernel_rfl
theorem ty_app : typeOf (.builtin "list.append") = pure (.type "method_descriptor") := by show builtinType _ = _; rw [builtinType_eq_fast]; kernel_rfl
theorem ty_len : typeOf (.builtin "list.__len__") = pure (.type "wrapper_descriptor") := by show builtinType _ = _; rw [builtinType_eq_fast]; kernel_rfl
theorem ty_init : typeOf (.builtin "list.__init__") = pure (.type "wrapper_descriptor") := by show builtinType _ = _; rw [builtinType_eq_fast]; kernel_rfl

theorem inst_list {p : Addr} {o : Obj} (X : (KF w).In h) (hp : h.get? p = some o) (hc : o.cls = .ref 122) : Looks (model PR w) h (isInstance (.ref p) (.type "list")) true :=
  (show Looks (model PR w) h (typeOf (.ref p)) (.ref 122) from hc ▸ (Looks.ld hp).andThen .now).andThen (looks_mroIn X (by unfold mroIn; rw [k122]; rfl))
abbrev bndObj (bt id : String) (x : Addr) : Obj := { cls := .type bt, data := .fields #[.builtin id, .ref x] }

theorem bound_make {x : Addr} {o : Obj} {id nm bt : String} {Q : Fin → Shared → Prop} (X : (KF w).In h) (hp : h.get? x = some o) (hc : o.cls = .ref 122) (ho : (kfb_private% "ownerAndName") id = ("list", nm))
    (hq : Q (.done (.ret (.ref h.objs.size))) ⟨h.push (bndObj bt id x), g, d, t, os⟩) :
    wpAny (model PR w) A ((kfb_private% "bindBuiltin") bt (.builtin id) (some (.ref x))) Q E ⟨h, g, d, t, os⟩ := by
  show wpAny _ _ ((kfb_private% "checkInstance") (.builtin id) (.ref x) >>= fun _ => newFields bt [.builtin id, .ref x] >>= ret) _ _ _
  refine wpAny_bind (wpAny_bind ?_)
  refine wpAny_of_eq (a := ((nm : Str), Value.type "list")) ?_ ?_
  · show (match (kfb_private% "ownerAndName") id with | (owner, name) => pure ((name : Str), Value.type owner)) = _
    rw [ho]
  · refine wpAny_bind ((inst_list X hp hc).at ?_)
    refine wpAny_pure ?_
    exact wpAny_bind (wpAny_newObj_type (wpAny_pure hq))
theorem get_pop {x : Addr} {o : Obj} {Q : Value → Shared → Prop} (X : (KF w).In h) (hp : h.get? x = some o) (hc : o.cls = .ref 122) (hq : Q (.ref h.objs.size) ⟨h.push (bndObj "builtin_function_or_method" "list.pop" x), g, d, t, os⟩) :
    wpAny (model PR w) A (call (.builtin "method_descriptor.__get__") [.builtin "list.pop", .ref x, .ref 122]) Q E ⟨h, g, d, t, os⟩ := by
  refine wpAny_call_entry slot_md ty_pop entry_md ?_ (args_md _ _ _)
  show wpAny _ _ ((kfb_private% "bindBuiltin") "builtin_function_or_method" (.builtin "list.pop") (some (.ref x))) _ _ _
  exact bound_make X hp hc own_pop ⟨_, rfl, hq⟩
theorem get_len {x : Addr} {o : Obj} {Q : Value → Shared → Prop} (X : (KF w).In h) (hp : h.get? x = some o) (hc : o.cls = .ref 122) (hq : Q (.ref h.objs.size) ⟨h.push (bndObj "method-wrapper" "list.__len__" x), g, d, t, os⟩) :
    wpAny (model PR w) A (call (.builtin "wrapper_descriptor.__get__") [.builtin "list.__len__", .ref x, .ref 122]) Q E ⟨h, g, d, t, os⟩ := by
  refine wpAny_call_entry slot_wd ty_len entry_wd ?_ (args_wd _ _ _)
  show wpAny _ _ ((kfb_private% "bindBuiltin") "method-wrapper" (.builtin "list.__len__") (some (.ref x))) _ _ _
  exact bound_make X hp hc own_len ⟨_, rfl, hq⟩
theorem get_init {x : Addr} {o : Obj} {Q : Value → Shared → Prop} (X : (KF w).In h) (hp : h.get? x = some o) (hc : o.cls = .ref 122) (hq : Q (.ref h.objs.size) ⟨h.push (bndObj "method-wrapper" "list.__init__" x), g, d, t, os⟩) :
    wpAny (model PR w) A (call (.builtin "wrapper_descriptor.__get__") [.builtin "list.__init__", .ref x, .ref 122]) Q E ⟨h, g, d, t, os⟩ := by
  refine wpAny_call_entry slot_wd ty_init entry_wd ?_ (args_wd _ _ _)
  show wpAny _ _ ((kfb_private% "bindBuiltin") "method-wrapper" (.builtin "list.__init__") (some (.ref x))) _ _ _
  exact bound_make X hp hc own_init ⟨_, rfl, hq⟩

theorem gm_super {so x : Addr} {name : Str} {pl : Sem Bool} {id bt : String} {dt : String} {gt : Value} {Q : Value × List Value → Shared → Prop} (hso : h.get? so = some (supObj x)) (X : (KF w).In h)
    (hf : alongIn (KF w) name [.type "list", .type "object"] = some (some (.builtin id))) (hx : x ≠ 122) (hn : (name == ("__class__" : Str)) = false)
    (hty : typeOf (.builtin id) = pure (.type dt)) (hlk : typeLookup (.type dt) "__get__" = pure (some gt))
    (hget : ∀ (A : Around) (Q : Value → Shared → Prop) (E : Value → Shared → Prop), Q (.ref h.objs.size) ⟨h.push (bndObj bt id x), g, d, t + 1, os⟩ → wpAny (model PR w) A (call gt [.builtin id, .ref x, .ref 122]) Q E ⟨h, g, d, t + 1, os⟩)
    (hq : Q (.ref h.objs.size, []) ⟨h.push (bndObj bt id x), g, d, t + 1, os⟩) :
    wpAny (model PR w) A (getMethod (.ref so) name pl) Q E ⟨h, g, d, t, os⟩ := by
  have hlk0 := F.ks_slot_super_ga.lookup
  have hcan := F.ks_canon_super_ga
  have hT : ∀ t', (⟨h, g, d, t', os⟩ : Shared).TypeIs (.ref so) "super" := fun _ => ⟨_, hso, rfl⟩
  unfold getMethod
  refine wpAny_bind (wpAny_specialOf (hT _) hlk0 ?_)
  show wpAny _ _ (if (Manifest.canonical "super.__getattribute__" != "object.__getattribute__") = true then _ else _) _ _ _
  rw [if_pos hcan]
  unfold getAttr getAttrBy
  refine wpAny_bind (wpAny_bind (wpAny_mkText (wpAny_holding (wpAny_bind (wpAny_typeOf (hT _) (wpAny_bind (wpAny_of_eq hlk0 ?_)))))))
  show wpAny _ _ (getAttrByItsOwn (.ref so) (.str name t) (.type "super") (.builtin "super.__getattribute__") true false) _ _ _
  unfold getAttrByItsOwn hookBefore callGetattribute boundAndCalled
  refine wpAny_bind (wpAny_of_eq (show (if onTheHeap (.type "super") then typeLookup (.type "super") "__getattr__" else pure none) = pure none from rfl) ?_)
  refine wpAny_bind (wpAny_attempt (wpAny_holding ?_))
  show wpAny _ _ (bindSpecial (.builtin "super.__getattribute__") (.ref so) >>= _) _ _ _
  refine wpAny_bind (wpAny_of_eq (F.ks_slot_super_ga.bind _) ?_)
  refine wpAny_mono (Q := fun v s' => v = .ref h.objs.size ∧ s' = ⟨h.push (bndObj bt id x), g, d, t + 1, os⟩) (E := fun _ _ => False)
    (wpAny_call_entry F.ks_slot_super_ga (hT _) F.ks_entry_super_ga (sup_ga hso X hf hx hn hty hlk (hget _ _ _ ⟨_, rfl, rfl, rfl⟩)) (F.ks_gaArgs_super _ _)) (fun v s' hv => ?_) fun _ _ z => z.elim
  obtain ⟨rfl, rfl⟩ := hv
  exact wpAny_pure (wpAny_pure hq)

theorem wrong_kind : (Value.type "builtin_function_or_method" == Value.type "method") = false := by decide
theorem wrap_kind : (Value.type "method-wrapper" == Value.type "method") = false := by decide
theorem entry_len : entryFor table "list.__len__" = some Builtin.«list.__len__» := entryFor_of_tree (by kernel_rfl)
theorem entry_linit : entryFor table "list.__init__" = some Builtin.«list.__init__» := entryFor_of_tree (by kernel_rfl)
theorem entry_lpop : entryFor table "list.pop" = some Builtin.«list.pop» := entryFor_of_tree (by kernel_rfl)

theorem call_bound {R : Result → Shared → Prop} {b x : Addr} {bt id : String} {bi : Builtin} (hbt : (Value.type bt == Value.type "method") = false) (hbt2 : (Value.type bt == Value.type "builtin_function_or_method" || Value.type bt == Value.type "method-wrapper") = true) (hb : h.get? b = some (bndObj bt id x)) (hid : plainId id = true) (hbi : entryFor table id = some bi)
    (hck : Looks (model PR w) h (checkBoundCall id ⟨[.ref x], []⟩) ())
    (hq : wpAny (model PR w) A.in1 (bi ⟨[.ref x], []⟩) (fun fin s' => match fin with | .done f => R (.ok f) s' | .again c' => c'.quiet = true ∧ codeAny (model PR w) A c' R s') (fun e s' => R (.error e) s') ⟨h, g, d, t, os⟩) :
    codeAny (model PR w) A (.call (.ref b) ⟨[], []⟩) R ⟨h, g, d, t, os⟩ := by
  refine codeAny_of_tree ?_
  show wpAny _ A.in1 (callAny (.ref b) ⟨[], []⟩) _ _ _
  unfold callAny
  refine wpAny_bind (wpAny_load hb ?_)
  dsimp only
  rw [hbt, Bool.false_or, hbt2, if_pos rfl]
  simp only [bne, hbt, Bool.not_false, if_true]
  refine wpAny_bind (hck.at ?_)
  refine wpAny_pure ⟨plainId_quiet hid _, codeAny_builtin hbi ?_⟩
  rw [Around.under_plainId hid _]
  exact hq

theorem ck_len {x : Addr} : Looks (model PR w) h (checkBoundCall "list.__len__" ⟨[.ref x], []⟩) () := Looks.of_pure (by kernel_rfl)
theorem ck_init {x : Addr} : Looks (model PR w) h (checkBoundCall "list.__init__" ⟨[.ref x], []⟩) () := Looks.of_pure (by kernel_rfl)
end
end Mine

namespace Mine
section
variable {w : World} {A : Around} {mg mb : Str → Option Value} {E : Value → Shared → Prop} {s : Shared}
variable {h : Heap} {g : Array GenState} {d : Drawn} {t : Nat} {os : OsState}
theorem ck_pop {x : Addr} {o : Obj} (X : (KF w).In h) (hp : h.get? x = some o) (hc : o.cls = .ref 122) (hn : notCls o = true) : Looks (model PR w) h (checkBoundCall "list.pop" ⟨[.ref x], []⟩) () := by
  intro A Q E s k q
  have L0 : Looks (model PR w) h (typeOf (.ref x)) (.ref 122) := hc ▸ (Looks.ld hp).andThen .now
  have L1 : Looks (model PR w) h (isInstance (.ref x) (.type "module")) false := L0.andThen (looks_mroIn X (by unfold mroIn; rw [k122]; rfl))
  have L2 := looks_clsIn (M := model PR w) X k122
  have L3 : Looks (model PR w) h (typeOf (.ref 122)) (.type "type") := looks_typeIn X rfl
  have L4 : Looks (model PR w) h (isType (.ref x)) false := by
    intro A Q E s k q
    obtain ⟨hh, gg, dd, tt, oo⟩ := s
    refine ks_wpAny_isType_inst (k _ _ hp) (fun c e => ?_) q
    unfold notCls at hn; rw [e] at hn; exact Bool.noConfusion hn
  have hs : Manifest.signature? "list.pop" = some ⟨.positional, "list.pop", "pop", .self, [⟨"index", .posOnly, false⟩]⟩ := by kernel_rfl
  have hk : builtinKind "list.pop" = some .method := by kernel_rfl
  have hv : Manifest.varargsMethods.contains "list.pop" = false := by decide +kernel
  have hca : Bind.checkArgs "list.pop" ⟨.positional, s!"{(Str.ofString "_Accumulator").toString}.{Bind.lastOf "list.pop"}", "pop", .self, [⟨"index", .posOnly, false⟩]⟩ ⟨[.ref x], []⟩ = pure () := by kernel_rfl
  obtain ⟨hh, gg, dd, tt, oo⟩ := s
  replace L0 := L0.keeps k
  replace L1 := L1.keeps k
  replace L2 := L2.keeps k
  replace L3 := L3.keeps k
  replace L4 := L4.keeps k
  unfold checkBoundCall
  rw [hs, hk]
  repeat (first | (rw [hca]; exact wpAny_pure q) | (rw [hv]; simp only [Bool.or_false, Bool.false_eq_true, if_false]) | lk)
end
end Mine

namespace Mine
section
variable {w : World} {A : Around} {mg mb : Str → Option Value} {E : Value → Shared → Prop} {s : Shared}
variable {h : Heap} {g : Array GenState} {d : Drawn} {t : Nat} {os : OsState}
theorem o_pc : (KF w).lookup 119 = some (fObj fPc) := by rfl
theorem o_pop : (KF w).lookup 82 = some (fObj fPop) := by rfl
theorem o_in : (KF w).lookup 59 = some (fObj fIn) := by rfl
theorem o_push : (KF w).lookup 66 = some (fObj fPush) := by rfl
theorem o_cell : (KF w).lookup 46 = some ⟨.type "cell", none, .cell (some (.ref 122)), #[]⟩ := by rfl
theorem c_pc : ∃ vs tf, (KF w).lookup 118 = some ⟨.type "code", none, .fields vs, #[]⟩ ∧ vs[2]? = some (.str (Str.ofString "/claim/cut.py") tf) := ⟨_, _, rfl, rfl⟩
theorem c_pop : ∃ vs tf, (KF w).lookup 81 = some ⟨.type "code", none, .fields vs, #[]⟩ ∧ vs[2]? = some (.str (Str.ofString "/claim/cut.py") tf) := ⟨_, _, rfl, rfl⟩
theorem c_in : ∃ vs tf, (KF w).lookup 58 = some ⟨.type "code", none, .fields vs, #[]⟩ ∧ vs[2]? = some (.str (Str.ofString "/claim/cut.py") tf) := ⟨_, _, rfl, rfl⟩

/-- super() in a method's frame -/
theorem at_super {body : List Stmt} {q : Str} {scope : Scope} {L f cda x dx : Addr} {its : Array Value} {c : Nat} {p0 p1 : Pos} {attr : Str} {whole : Sem Value} {fd : FuncData} {ar : Arg} {m : Str → Option Value} {Q : Value → Shared → Prop}
    (F : s.heap.Ns L m) (G : GX w mg mb s.heap) (hx : s.heap.get? x = some (accObj dx its c))
    (hf : (KF w).lookup f = some (fObj fd)) (hp : (fd.params.posonlyargs ++ fd.params.args).head? = some ar) (hv : m ar.arg = some (.ref x))
    (hcode : ∃ vs tf, (KF w).lookup cda = some ⟨.type "code", none, .fields vs, #[]⟩ ∧ vs[2]? = some (.str (Str.ofString "/claim/cut.py") tf))
    (hat : (attr == ("__class__" : Str)) = false) (hks : scope.names.lookup ("super" : Str) = some .globalImplicit) (hkc : scope.names.lookup ("__class__" : Str) = some .free) (hka : scope.names.lookup ar.arg = some .local) (hk : scope.kind = .function)
    (h : ∀ so h', h'.get? so = some (supObj x) → Ext s.heap h' → Q (.ref so) { s with heap := h' }) :
    _root_.PySem.wpAt (model PR w) A (.func body (ksEnv q scope L f (.ref cda) 46)) (attributeBase (.Call (.Name "super" p0) [] [] p1) attr (ksEnv q scope L f (.ref cda) 46) whole) Q E s := by
  obtain ⟨vs, tf, hc1, hc2⟩ := hcode
  have X := G.kx
  have GG := G.gc
  obtain ⟨hh, gg, dd, tt, oo⟩ := s
  have hD := X _ _ (show (KF w).lookup 122 = some ⟨_, _, _, _⟩ from rfl)
  refine ks_wpAt_super_base (env := ksEnv q scope L f (.ref cda) 46) hks hkc hat rfl (X _ _ hf) rfl hp rfl (X _ _ hc1) rfl hc2 (by decide +kernel) (by decide +kernel) ?_
  refine ks_loadName_global hk hks (Calls.loadGlobal_builtin (env := ksEnv q scope L f (.ref cda) 46) GG.g (GG.bt _ b_super).1 GG.b (GG.bt _ b_super).2 ⟨rfl, ?_⟩)
  refine wpAny_loadName_free hk hkc rfl ⟨_, X _ _ o_cell, rfl⟩ ?_
  refine wpAny_loadName_local hk hka F hv ?_
  refine ks_wpAny_isType_cls hD rfl ⟨rfl, ?_⟩
  refine ks_wpAny_call_super hD rfl hx rfl (fun c e => by cases e) (looks_mroIn X (by unfold mroIn; rw [k122]; rfl)) (fun h' e k => h _ h' e k)
end
end Mine

namespace Mine
section
variable {w : World} {A : Around} {mg mb : Str → Option Value} {E : Value → Shared → Prop} {s : Shared}
variable {h : Heap} {g : Array GenState} {d : Drawn} {t : Nat} {os : OsState}
theorem keep_m {b x : Addr} {id : String} (hb : h.get? b = some (bndObj "builtin_function_or_method" id x)) : Looks (model PR w) h (keeperOf (.ref b)) .machine := (Looks.ld (part := none) hb).andThen (Looks.of_pure (by kernel_rfl))
theorem keep_w {b x : Addr} {id : String} (hb : h.get? b = some (bndObj "method-wrapper" id x)) : Looks (model PR w) h (keeperOf (.ref b)) .machine := (Looks.ld (part := none) hb).andThen (Looks.of_pure (by kernel_rfl))

theorem at_supcall {body : List Stmt} {q : Str} {scope : Scope} {L f cda x dx : Addr} {its : Array Value} {c : Nat} {p0 p1 apos pos : Pos} {name : Str} {fd : FuncData} {ar : Arg} {m : Str → Option Value} {id bt dt : String} {gt : Value} {bi : Builtin} {Q : Value → Shared → Prop}
    (F : s.heap.Ns L m) (G : GX w mg mb s.heap) (hx : s.heap.get? x = some (accObj dx its c))
    (hf : (KF w).lookup f = some (fObj fd)) (hp : (fd.params.posonlyargs ++ fd.params.args).head? = some ar) (hv : m ar.arg = some (.ref x))
    (hcode : ∃ vs tf, (KF w).lookup cda = some ⟨.type "code", none, .fields vs, #[]⟩ ∧ vs[2]? = some (.str (Str.ofString "/claim/cut.py") tf))
    (hat : (name == ("__class__" : Str)) = false) (hks : scope.names.lookup ("super" : Str) = some .globalImplicit) (hkc : scope.names.lookup ("__class__" : Str) = some .free) (hka : scope.names.lookup ar.arg = some .local) (hk : scope.kind = .function)
    (hal : alongIn (KF w) name [.type "list", .type "object"] = some (some (.builtin id))) (hty : typeOf (.builtin id) = pure (.type dt)) (hlk : typeLookup (.type dt) "__get__" = pure (some gt))
    (hget : ∀ (h : Heap) (t : Nat) (A : Around) (Q : Value → Shared → Prop) (E : Value → Shared → Prop), (KF w).In h → h.get? x = some (accObj dx its c) → Q (.ref h.objs.size) ⟨h.push (bndObj bt id x), s.gens, s.drawn, t, s.os⟩ → wpAny (model PR w) A (call gt [.builtin id, .ref x, .ref 122]) Q E ⟨h, s.gens, s.drawn, t, s.os⟩)
    (hkeep : ∀ (h : Heap) (b : Addr), h.get? b = some (bndObj bt id x) → Looks (model PR w) h (keeperOf (.ref b)) .machine)
    (hbt : (Value.type bt == Value.type "method") = false) (hbt2 : (Value.type bt == Value.type "builtin_function_or_method" || Value.type bt == Value.type "method-wrapper") = true) (hid : plainId id = true) (hbi : entryFor table id = some bi)
    (hck : ∀ h' : Heap, (KF w).In h' → h'.get? x = some (accObj dx its c) → Looks (model PR w) h' (checkBoundCall id ⟨[.ref x], []⟩) ())
    {pl : Sem Bool} (he : eval (.Call (.Attribute (.Call (.Name "super" p0) [] [] p1) name apos) [] [] pos) (ksEnv q scope L f (.ref cda) 46) = (do
      let ov ← attributeBase (.Call (.Name "super" p0) [] [] p1) name (ksEnv q scope L f (.ref cda) 46) (eval (.Call (.Name "super" p0) [] [] p1) (ksEnv q scope L f (.ref cda) 46))
      standAt apos.atName
      let (f', first) ← holding [ov] (getMethod ov name pl)
      callWith pos f' first (backTo pos (starEach [] (ksEnv q scope L f (.ref cda) 46))) []))
    (hq : ∀ h' t', Ext s.heap h' → h'.get? x = some (accObj dx its c) → wpAny (model PR w) A.in1 (bi ⟨[.ref x], []⟩) (fun fin s' => ∃ v, fin = .done (.ret v) ∧ Q v s') (fun _ _ => False) { s with heap := h', toks := t' }) :
    _root_.PySem.wpAt (model PR w) A (.func body (ksEnv q scope L f (.ref cda) 46)) (eval (.Call (.Attribute (.Call (.Name "super" p0) [] [] p1) name apos) [] [] pos) (ksEnv q scope L f (.ref cda) 46)) Q E s := by
  refine ks_wpAt_MethodCall (at_super F G hx hf hp hv hcode hat hks hkc hka hk fun so h' hso e => ?_) he
  have hx' := e _ _ hx
  have hne : x ≠ 122 := fun z => by
    have := G.kx _ _ (show (KF w).lookup 122 = some ⟨_, _, _, _⟩ from rfl)
    rw [z] at hx; rw [hx] at this; cases this
  have X' : (KF w).In h' := G.kx.keeps e
  refine gm_super hso X' hal hne hat hty hlk (fun A Q E k => hget h' _ A Q E X' hx' k) ?_
  have e2 : Ext s.heap (h'.push (bndObj bt id x)) := fun b o z => Heap.get?_push_of_some _ (e _ _ z)
  have hb : (h'.push (bndObj bt id x)).get? h'.objs.size = some (bndObj bt id x) := Heap.get?_push_at rfl rfl
  refine callWith_of (P := fun hh => hh = h'.push (bndObj bt id x)) rfl (fun hh e => ⟨.machine, .inr (.inl rfl), e ▸ hkeep _ _ hb⟩) (evalArgs_nil3 ⟨rfl, ?_⟩)
  refine wpAny_call (call_bound hbt hbt2 hb hid hbi (hck _ (X'.keeps fun b o z => Heap.get?_push_of_some _ z) (e2 _ _ hx)) ?_)
  refine wpAny_mono (hq _ _ e2 (e2 _ _ hx)) (fun fin s' z => ?_) fun _ _ z => z.elim
  obtain ⟨v, rfl, z⟩ := z
  exact z

theorem run_len {x dx : Addr} {its : Array Value} {c : Nat} {P : Fin → Shared → Prop} (hx : h.get? x = some (accObj dx its c)) (hq : ∀ t' tk, P (.done (.ret (.int its.size t'))) ⟨h, g, d, tk, os⟩) :
    wpAny (model PR w) A (Builtin.«list.__len__» ⟨[.ref x], []⟩) P E ⟨h, g, d, t, os⟩ := by
  unfold Builtin.«list.__len__»
  wp_walk
  all_goals first | exact hq _ _ | skip

/-- entering a method of the class -/
theorem m_enter {Q : Value → Shared → Prop} {f cda : Addr} {nm qn : Str} {i : Nat} {dV ct : Value} {args : List Value} {binds : List (Str × Value)} (G : GX w mg mb s.heap) (room : A.depth < recursionLimit)
    (hf : (KF w).lookup f = some (fObj (cFd nm qn i dV cda ct))) (hcd : codeIn (KF w) (.ref cda) qn = true) (hbind : BindsTo s (cFd nm qn i dV cda ct) ⟨args, []⟩ binds)
    (hcell : ∀ x ∈ (cScope i).names, x.2 ≠ .cell) (hloc : ∀ x ∈ binds, (cScope i).names.lookup x.1 = some .local)
    (h : ∀ h₁, Fr s.heap s.heap.objs.size h₁ (fun x => binds.reverse.lookup x) →
      _root_.PySem.wpAt (model PR w) (A.deeper (ksEnv qn (cScope i) s.heap.objs.size f (.ref cda) 46)) (.func (cFn i) (ksEnv qn (cScope i) s.heap.objs.size f (.ref cda) 46)) (execs (cFn i) (ksEnv qn (cScope i) s.heap.objs.size f (.ref cda) 46))
        (fun fl s' => Q (match fl with | .ret v => v | _ => .none) s') (fun _ _ => False) { s with heap := h₁, toks := s.toks + binds.length })
    (hco : (cScope i).isCoroutine = false := by rfl) (hgen : (cScope i).isGenerator = false := by rfl) (hk : (cScope i).kind = .function := by rfl) :
    wpAny (model PR w) A (call (.ref f) args) Q E s := by
  refine wpAny_call (ks_codeAny_call_defAt (fd := cFd nm qn i dV cda ct) (body := cFn i) (binds := binds) room (G.kx _ _ hf) rfl G.gc.lim (codeRec_of G.kx hcd) rfl hbind hcell hloc (fun h₁ hns hk₁ => ?_) hco hgen hk)
  exact ks_wpAt_mono (h h₁ ⟨hns, hk₁, Nat.le_refl _⟩) (fun fl s' z => z) fun _ _ z => z.elim

theorem pc_ok {Q : Value → Shared → Prop} {x dx : Addr} {its : Array Value} {c : Nat} (G : GX w mg mb s.heap) (room : A.depth < recursionLimit) (hx : s.heap.get? x = some (accObj dx its c))
    (h : ∀ t s', Now s s' → Q (.int its.size t) s') : wpAny (model PR w) A (call (.ref 119) [.ref x]) Q E s := by
  refine m_enter (f := 119) (cda := 118) (i := 8) (binds := [(Str.ofString "self", .ref x)]) G room o_pc (by rfl) (fun _ _ _ _ q => wpAny_pure q) (by decide) (locs rfl) fun h₁ F => ?_
  refine ks_wpAt_execs_cons (ks_wpAt_Return_some ?_)
  refine at_supcall (fd := fPc) (id := "list.__len__") (bt := "method-wrapper") (dt := "wrapper_descriptor") F.ns (G.keeps F.keep) (F.keep _ _ hx) o_pc rfl rfl c_pc (by decide) rfl rfl rfl rfl k_len ty_len slot_wd.lookup
    (fun h t A Q E X hx q => get_len X hx rfl q) (fun h b hb => keep_w hb) (by decide) (by decide) (by decide +kernel) entry_len (fun _ _ _ => ck_len) rfl fun h' t' e hx' => ?_
  refine run_len hx' fun t'' tk => ⟨_, rfl, ?_⟩
  exact h _ _ ⟨fun b o z => e _ _ (F.keep _ _ z), rfl, id⟩

/-- the pile, with what its dict holds -/
def Acc (h : Heap) (p dx : Addr) (its : List Value) : Prop := ∃ c hs tk v n, h.get? p = some (accObj dx its.toArray c) ∧ h.get? dx = some (dictOf [⟨hs, .str (Str.ofString "_initial_size") tk, v⟩] n) ∧ dx ≠ p
theorem Acc.keeps {h h' : Heap} {p dx : Addr} {its : List Value} (x : Acc h p dx its) (k : Ext h h') : Acc h' p dx its := let ⟨c, hs, tk, v, n, a, b, e⟩ := x; ⟨c, hs, tk, v, n, k _ _ a, k _ _ b, e⟩
/-- all but one object stay -/
structure But (p : Addr) (s s' : Shared) : Prop where
  heap : ∀ b o, b ≠ p → s.heap.get? b = some o → s'.heap.get? b = some o
  os : s'.os = s.os
  bare : AllBare s.gens → AllBare s'.gens

theorem gm_acc {p dx : Addr} {its : Array Value} {c n : Nat} {hs : Int} {tk : Tok} {v : Value} {name : Str} {pl : Sem Bool} {f tf : Value} {Q : Value × List Value → Shared → Prop} (X : (KF w).In h) (hp : h.get? p = some (accObj dx its c)) (hd : h.get? dx = some (dictOf [⟨hs, .str (Str.ofString "_initial_size") tk, v⟩] n))
    (hn : getL name [⟨hs, .str (Str.ofString "_initial_size") tk, v⟩] = some none) (hf : findIn (KF w) (.ref 122) name = some (some f)) (ht : Looks (model PR w) h (typeOf f) tf) (htf : (tf != .type "function" && tf != .type "method_descriptor" && tf != .type "wrapper_descriptor") = false)
    (hq : Q (f, [.ref p]) ⟨h, g, d, t, os⟩) : wpAny (model PR w) A (getMethod (.ref p) name pl) Q E ⟨h, g, d, t, os⟩ := by
  have hcan : (Manifest.canonical "list.__getattribute__" != "object.__getattribute__") = false := by decide +kernel
  have L0 : Looks (model PR w) h (typeOf (.ref p)) (.ref 122) := (Looks.ld hp).andThen .now
  have L1 := looks_findIn (M := model PR w) X k_ga
  have L2 := looks_findIn (M := model PR w) X k_gt
  have L3 := looks_findIn (M := model PR w) X hf
  unfold getMethod specialOf
  refine wpAny_bind (wpAny_bind (L0.at (L1.at ?_)))
  dsimp only
  rw [hcan, if_neg (by decide)]
  refine wpAny_bind (wpAny_bind (L0.at (L2.at ?_)))
  refine wpAny_bind (wpAny_bind (L0.at (L3.at (wpAny_bind (ht.at ?_)))))
  rw [htf, if_neg (by decide)]
  refine wpAny_bind (wpAny_loadPart hp ?_)
  refine wpAny_bind (wpAny_bind (wpAny_loadPart hd ?_))
  rw [nsLook_of (show lookIn name _ = _ from (lookIn_dict name _ n).trans hn)]
  exact wpAny_pure (wpAny_bind (wpAny_rule (wpAny_pure hq)))

theorem check_meth {M : Model} {i owner n : String} {self : Value} {rest : List Value} {kw : List (Str × Value)} {Q : Unit → Shared → Prop}
    (hk : builtinKind i = some .method) (hs : splitId i = some (owner, n)) (hi : Looks M s.heap (isInstance self (.type owner)) true) (ha : argsOk i ⟨self :: rest, kw⟩) (q : Q () s) :
    wpAny M A (checkBuiltinCall i ⟨self :: rest, kw⟩) Q E s := by
  simp only [checkBuiltinCall, hk, hs]
  refine wpAny_bind (hi.here ?_)
  simp only [Bool.not_true, Bool.false_eq_true, if_false]
  cases hsig : Manifest.signature? i with
  | none => exact wpAny_pure q
  | some sig =>
    simp only [argsOk, hsig] at ha
    have h2 : Bind.checkArgs i sig ⟨self :: rest, kw⟩ = pure () := ha
    show wpAny M A (Bind.checkArgs i sig ⟨self :: rest, kw⟩) Q E s
    rw [h2]; exact wpAny_pure q
theorem entry_app : entryFor table "list.append" = some Builtin.«list.append» := entryFor_of_tree (by kernel_rfl)
theorem entry_gi : entryFor table "list.__getitem__" = some Builtin.«list.__getitem__» := entryFor_of_tree (by kernel_rfl)
theorem args_app (a b : Value) : argsOk "list.append" ⟨[a, b], []⟩ := by unfold argsOk; kernel_rfl
theorem args_gi (a b : Value) : argsOk "list.__getitem__" ⟨[a, b], []⟩ := by unfold argsOk; kernel_rfl
theorem kind_app : builtinKind "list.append" = some .method := by decide +kernel
theorem kind_gi : builtinKind "list.__getitem__" = some .method := by decide +kernel
theorem split_app : splitId "list.append" = some ("list", "append") := by decide +kernel
theorem split_gi : splitId "list.__getitem__" = some ("list", "__getitem__") := by decide +kernel

theorem seq_update {p dx : Addr} {its its' : Array Value} {c : Nat} {f : Array Value → Array Value} (hp : h.get? p = some (accObj dx its c)) (he : f its = its') : ∃ c', (h.update p (Obj.mapSeq f)).get? p = some (accObj dx its' c') := by
  have := Heap.get?_update_self (Obj.mapSeq f) hp rfl
  rw [this]
  unfold Obj.mapSeq
  subst he
  exact ⟨_, rfl⟩

theorem app_ok {Q : Value → Shared → Prop} {p dx : Addr} {its : List Value} {v : Value} (X : (KF w).In s.heap) (hp : Acc s.heap p dx its) (hz : its.length ≤ 1000)
    (h : ∀ s', But p s s' → Acc s'.heap p dx (its ++ [v]) → Q .none s') : wpAny (model PR w) A (call (.builtin "list.append") [.ref p, v]) Q E s := by
  obtain ⟨c, hs, tk, vv, n, h1, h2, h3⟩ := hp
  refine wpAny_call (codeAny_call_builtin (by decide +kernel) entry_app (check_meth kind_app split_app (inst_list X h1 rfl) (args_app _ _) ?_))
  unfold Builtin.«list.append»
  refine wpAny_bind (wpAny_of_eq (a := ((.ref p : Value), v)) (by rfl) ?_)
  refine wpAny_bind ?_
  have hz1 : its.toArray.size ≤ sizeLine := Nat.le_trans (by simpa using hz) (Nat.le_of_ble_eq_true rfl)
  refine wpAny_updateSeq (hz := hz1) h1 rfl ?_ (by simp; exact hz1)
  refine wpAny_pure ?_
  obtain ⟨c', e⟩ := seq_update (f := (·.push v)) (its' := (its ++ [v]).toArray) h1 (by simp)
  have oth : ∀ b o, b ≠ p → s.heap.get? b = some o → (s.heap.update p (Obj.mapSeq (·.push v))).get? b = some o := fun b o hb e => (Heap.get?_update_other _ _ (Ne.symm hb)).trans e
  exact h _ ⟨oth, rfl, id⟩ ⟨c', hs, tk, vv, n, e, oth _ _ h3 h2, h3⟩
end
end Mine

namespace Mine
section
variable {w : World} {A : Around} {mg mb : Str → Option Value} {E : Value → Shared → Prop} {s : Shared}
variable {h : Heap} {g : Array GenState} {d : Drawn} {t : Nat} {os : OsState}
theorem gl_app {hs : Int} {tk : Tok} {v : Value} : getL (Str.ofString "append") [⟨hs, .str (Str.ofString "_initial_size") tk, v⟩] = some none := by rfl
theorem gl_pc {hs : Int} {tk : Tok} {v : Value} : getL (Str.ofString "part_count") [⟨hs, .str (Str.ofString "_initial_size") tk, v⟩] = some none := by rfl
theorem gl_pop {hs : Int} {tk : Tok} {v : Value} : getL (Str.ofString "pop") [⟨hs, .str (Str.ofString "_initial_size") tk, v⟩] = some none := by rfl
theorem gl_push {hs : Int} {tk : Tok} {v : Value} : getL (Str.ofString "push") [⟨hs, .str (Str.ofString "_initial_size") tk, v⟩] = some none := by rfl
theorem looks_fn {f : Addr} {fd : FuncData} (X : (KF w).In h) (hf : (KF w).lookup f = some (fObj fd)) : Looks (model PR w) h (typeOf (.ref f)) (.type "function") := (Looks.ld (X _ _ hf)).andThen .now
theorem not_fn : ((Value.type "function" : Value) != .type "function" && (Value.type "function" : Value) != .type "method_descriptor" && (Value.type "function" : Value) != .type "wrapper_descriptor") = false := by decide
theorem not_md : ((Value.type "method_descriptor" : Value) != .type "function" && (Value.type "method_descriptor" : Value) != .type "method_descriptor" && (Value.type "method_descriptor" : Value) != .type "wrapper_descriptor") = false := by decide

theorem push_ok {Q : Value → Shared → Prop} {p dx : Addr} {its : List Value} {a b : Value} (G : GX w mg mb s.heap) (room : A.depth < recursionLimit) (hp : Acc s.heap p dx its) (hz : its.length ≤ 1000)
    (h : ∀ s' tp, But p s s' → s.heap.get? tp = none → s'.heap.get? tp = some { cls := .type "tuple", data := .seq #[a, b] } → Acc s'.heap p dx (its ++ [.ref tp]) → Q .none s') :
    wpAny (model PR w) A (call (.ref 66) [.ref p, a, b]) Q E s := by
  refine wpAny_call (ks_codeAny_call_defAt (fd := fPush) (body := cFn 1) (binds := [(Str.ofString "self", .ref p), (Str.ofString "fws", a), (Str.ofString "string", b)]) room (G.kx _ _ o_push) rfl G.gc.lim (codeRec_of G.kx (by rfl)) rfl (fun _ _ _ _ q => wpAny_pure q) (by decide) (locs rfl) (fun h₁ hns hk₁ => ?_))
  have G₁ : GX w mg mb h₁ := G.keeps hk₁
  obtain ⟨hh, gg, dd, tt, oo⟩ := s
  refine ks_wpAt_mono (Q := fun fl s' => match fl with | .next => Q .none s' | _ => False) (E := fun _ _ => False) (wpAt_of_wpAny ?_) (fun fl s' z => ?_) fun _ _ z => z.elim
  · refine wpAny_execs_cons (wpAny_Expr_any (MethodCall_ (wpAny_Name (wpAny_loadName_local rfl rfl hns (v := .ref p) rfl ?_))))
    have hp₁ : Acc h₁ p dx its := hp.keeps hk₁
    obtain ⟨c, hs, tk, vv, n, h1, h2, h3⟩ := hp₁
    refine gm_acc G₁.kx h1 h2 gl_app k_app (Looks.of_pure ty_app) not_md ?_
    have F : Fr hh hh.objs.size h₁ (fun x => [(Str.ofString "self", .ref p), (Str.ofString "fws", a), (Str.ofString "string", b)].reverse.lookup x) := ⟨hns, hk₁, Nat.le_refl _⟩
    refine Calls.callWith_builtin rfl (Calls.evalArgs_plain (spliced_more (wpAny_Tuple (spliced_more (ld F rfl (spliced_more (ld F rfl (spliced_none ⟨Nat.le_of_ble_eq_true rfl, spliced_none ?_⟩))))))))
    have hp₂ : Acc (h₁.push { cls := .type "tuple", data := .seq #[a, b] }) p dx its := (hp.keeps hk₁).keeps fun b o z => Heap.get?_push_of_some _ z
    refine app_ok (G₁.kx.keeps fun b o z => Heap.get?_push_of_some _ z) hp₂ hz fun s' B hp₃ => ?_
    have e0 : (h₁.push { cls := .type "tuple", data := .seq #[a, b] }).get? h₁.objs.size = some { cls := .type "tuple", data := .seq #[a, b] } := Heap.get?_push_at rfl rfl
    have hne : h₁.objs.size ≠ p := fun z => by
      have := Heap.lt_size h1; rw [z] at this; exact absurd this (Nat.lt_irrefl _)
    refine wpAny_execs_nil ?_
    refine h s' h₁.objs.size ⟨fun b o hb z => B.heap b o hb (Heap.get?_push_of_some _ (hk₁ _ _ z)), B.os, B.bare⟩ ?_ (B.heap _ _ hne e0) hp₃
    cases q : hh.get? h₁.objs.size with
    | none => rfl
    | some o => exact absurd (Heap.lt_size (hk₁ _ _ q)) (Nat.lt_irrefl _)
  · cases fl <;> first | exact z | exact z.elim

theorem run_pop {x dx : Addr} {its : List Value} {y : Value} {c : Nat} {P : Fin → Shared → Prop} (hx : h.get? x = some (accObj dx (its ++ [y]).toArray c)) (hz : its.length ≤ 999)
    (hq : ∀ h' c', h'.get? x = some (accObj dx its.toArray c') → (∀ b o, b ≠ x → h.get? b = some o → h'.get? b = some o) → P (.done (.ret y)) ⟨h', g, d, t, os⟩) :
    wpAny (model PR w) A (Builtin.«list.pop» ⟨[.ref x], []⟩) P E ⟨h, g, d, t, os⟩ := by
  have hz1 : (its ++ [y]).toArray.size ≤ sizeLine := by
    have : (1000 : Nat) ≤ sizeLine := Nat.le_of_ble_eq_true rfl
    simp; omega
  have he : (its ++ [y]).toArray.isEmpty = false := by simp
  have hsi : ((seqIndex? (-1) (its ++ [y]).toArray.size).bind fun k => (its ++ [y]).toArray[k]?.map (k, ·)) = some (its.length, y) := by
    have e1 : seqIndex? (-1) (its ++ [y]).toArray.size = some its.length := by
      unfold seqIndex?
      simp
      omega
    rw [e1]
    simp
  unfold Builtin.«list.pop»
  refine wpAny_bind (wpAny_of_eq (a := ((.ref x : Value), ([] : List Value))) (by rfl) ?_)
  refine wpAny_bind (wpAny_pure ?_)
  dsimp only
  rw [show Builtin.List.listFitsIndex (-1) = true by decide]
  simp only [Bool.not_true, Bool.false_eq_true, if_false]
  refine wpAny_bind (wpAny_bind (wpAny_seqItems hx rfl (wpAny_pure ?_)))
  rw [he]
  simp only [Bool.false_eq_true, if_false]
  rw [hsi]
  refine wpAny_bind ?_
  have hk := kl_erase its [] y
  rw [List.append_nil] at hk
  refine wpAny_updateSeq (hz := hz1) hx rfl (wpAny_pure ?_) (by rw [hk]; simp only [List.size_toArray]; have : (1000 : Nat) ≤ sizeLine := Nat.le_of_ble_eq_true rfl; omega)
  obtain ⟨c', e⟩ := seq_update (f := fun x => x.eraseIdxIfInBounds its.length) hx hk
  exact hq _ c' e fun b o hb e => (Heap.get?_update_other _ _ (Ne.symm hb)).trans e

theorem pop_ok {Q : Value → Shared → Prop} {p dx : Addr} {its : List Value} {y : Value} (G : GX w mg mb s.heap) (room : Room A 3) (hp : Acc s.heap p dx (its ++ [y])) (hz : its.length ≤ 999)
    (h : ∀ s', But p s s' → Acc s'.heap p dx its → Q y s') : wpAny (model PR w) A (call (.ref 82) [.ref p]) Q E s := by
  refine m_enter (f := 82) (cda := 81) (i := 3) (binds := [(Str.ofString "self", .ref p)]) G room.lt o_pop (by rfl) (fun _ _ _ _ q => wpAny_pure q) (by decide) (locs rfl) fun h₁ F => ?_
  have room' := room.deeper (ksEnv (Str.ofString "_Accumulator.pop") (cScope 3) s.heap.objs.size 82 (.ref 81) 46)
  obtain ⟨hh, gg, dd, tt, oo⟩ := s
  have G₁ : GX w mg mb h₁ := G.keeps F.keep
  have hp₁ : Acc h₁ p dx (its ++ [y]) := hp.keeps F.keep
  refine ks_wpAt_execs_cons (ks_wpAt_If (wpAt_of_wpAny (wpAny_isTrue_Compare1 ?_)))
  refine MethodCall_ (wpAny_Name (wpAny_loadName_local rfl rfl F.ns (v := .ref p) rfl ?_))
  have hp₂ := hp₁
  obtain ⟨c, hs, tk, vv, n, h1, h2, h3⟩ := hp₁
  refine gm_acc G₁.kx h1 h2 gl_pc k_pc (looks_fn G₁.kx o_pc) not_fn ?_
  refine callWith_meth0 rfl (G₁.kx _ _ o_pc) ?_
  refine pc_ok G₁ room'.lt h1 fun t₂ s₂ n₂ => wpAny_Constant_int (eq_int (wpAny_truthy_bool ?_))
  rw [show ((((its ++ [y]).toArray.size : Nat) : Int) == 0) = false by simp; omega]
  simp only [Bool.false_eq_true, if_false]
  refine wpAt_of_wpAny (wpAny_execs_nil ?_)
  obtain ⟨h₂, g₂, d₂, t₂, o₂⟩ := s₂
  have F₂ : Fr hh hh.objs.size h₂ _ := fr_ext F n₂.ext
  refine ks_wpAt_execs_cons (ks_wpAt_Return_some ?_)
  refine at_supcall (fd := fPop) (id := "list.pop") (bt := "builtin_function_or_method") (dt := "method_descriptor") F₂.ns (G₁.keeps n₂.ext) (n₂.ext _ _ h1) o_pop rfl rfl c_pop (by decide) rfl rfl rfl rfl k_pop ty_pop slot_md.lookup
    (fun h t A Q E X hx q => get_pop X hx rfl q) (fun h b hb => keep_m hb) (by decide) (by decide) (by decide +kernel) entry_lpop (fun _ X hx => ck_pop X hx rfl rfl) rfl fun h' t' e hx' => ?_
  refine run_pop hx' hz fun h'' c'' hx'' oth => ⟨_, rfl, ?_⟩
  refine h _ ⟨fun b o hb z => oth _ _ hb (e _ _ (n₂.ext _ _ (F.keep _ _ z))), n₂.os, n₂.bare⟩ ⟨c'', hs, tk, vv, n, hx'', oth _ _ h3 (e _ _ (n₂.ext _ _ h2)), h3⟩
end
end Mine

namespace Mine
open Builtin
section
variable {w : World} {A : Around} {mg mb : Str → Option Value} {E : Value → Shared → Prop} {s : Shared}
variable {h : Heap} {g : Array GenState} {d : Drawn} {t : Nat} {os : OsState} {R : Result → Shared → Prop}

theorem l_made (X : (KF w).In h) : Looks (model PR w) h (Bind.madeBy (.ref 122)) (some "list.__new__") := by
  intro A Q E s k q
  unfold Bind.madeBy
  refine wpAny_bind (looks_mro X A _ E s k ?_)
  rw [List.forIn_cons]
  refine wpAny_bind (wpAny_bind (wpAny_bind (wpAny_bind (wpAny_loadPart (k _ _ (X _ _ (show (KF w).lookup 122 = some ⟨_, _, _, _⟩ from rfl))) (wpAny_pure ?_)))))
  exact wpAny_pure (wpAny_pure (wpAny_pure q))
theorem l_base (X : (KF w).In h) : Looks (model PR w) h (Bind.staticBase (.ref 122)) (.ref 122) := by
  intro A Q E s k q
  unfold Bind.staticBase
  refine wpAny_bind (looks_mro X A _ E s k ?_)
  rw [List.forIn_cons]
  exact wpAny_bind (wpAny_bind (wpAny_bind (l_made X A _ E s k (wpAny_pure (wpAny_pure (wpAny_pure q))))))
theorem l_type (X : (KF w).In h) : Looks (model PR w) h (isType (.ref 122)) true := by
  intro A Q E s k q
  obtain ⟨hh, gg, dd, tt, oo⟩ := s
  exact ks_wpAny_isType_cls (k _ _ (X _ _ (show (KF w).lookup 122 = some ⟨_, _, _, _⟩ from rfl))) rfl q
theorem l_sub (X : (KF w).In h) : Looks (model PR w) h (isSubtype (.ref 122) (.type "list")) true := looks_mroIn X (by unfold mroIn; rw [k122]; rfl)
theorem l_self (X : (KF w).In h) : Looks (model PR w) h (isSubtype (.ref 122) (.ref 122)) true := looks_mroIn X (by unfold mroIn; rw [k122]; rfl)

theorem new_acc (X : (KF w).In h) (hq : R (.ok (.ret (.ref (h.objs.size + 1)))) ⟨(h.push emptyDict).push (accObj h.objs.size #[] 0), g, d, t, os⟩) :
    codeAny (model PR w) A (.call (.builtin "list.__new__") ⟨[.ref 122], []⟩) R ⟨h, g, d, t, os⟩ := by
  have L1 := l_type X
  have L2 := l_sub X
  have L3 := l_base X
  have L4 := l_made X
  have kd : builtinKind "list.__new__" = some .builtinFn := by decide +kernel
  have sp : splitId "list.__new__" = some ("list", "__new__") := by decide +kernel
  have cn : (Manifest.canonical "list.__new__" != Manifest.canonical "list.__new__") = false := by simp
  have sg : ∀ sig, Manifest.signature? "list.__new__" = some sig → Bind.checkArgs "list.__new__" sig ⟨[.ref 122], []⟩ = pure () := by
    intro sig e
    have : (Manifest.signature? "list.__new__").elim (pure () : Sem Unit) (fun sig => Bind.checkArgs "list.__new__" sig ⟨[.ref 122], []⟩) = pure () := by kernel_rfl
    rw [e] at this
    exact this
  refine codeAny_call_builtin_code (Code.quiet_builtin _ (by decide +kernel)) ?_
  simp only [checkBuiltinCall, kd, sp]
  have hown := owner_list_new
  have fin : codeAny (model PR w) A (.builtin "list.__new__" ⟨[.ref 122], []⟩) R ⟨h, g, d, t, os⟩ := by
    refine codeAny_builtin_stack F.entry_list_new rfl fun p st => ?_
    simp only [hown]
    refine wpAny_bind (L1.at ?_)
    simp only [Bool.not_true, Bool.false_eq_true, if_false]
    refine wpAny_bind (L2.at ?_)
    simp only [Bool.not_true, Bool.false_eq_true, if_false]
    refine wpAny_bind (wpAny_pure ?_)
    rw [show typeHasDict (.ref 122) = true from rfl]
    simp only [Bool.not_true, Bool.false_eq_true, if_false]
    refine wpAny_bind (wpAny_newObj_type (T := "dict") ?_ (by size_fits))
    dsimp only
    refine wpAny_bind ?_
    unfold newObj
    dsimp only
    rw [if_neg (by simp)]
    try refine wpAny_bind (wpAny_pure ?_)
    unfold newObjAsIs classHasDel
    have hC := X _ _ (show (KF w).lookup 122 = some ⟨_, _, _, _⟩ from rfl)
    refine wpAny_bind (wpAny_alloc (wpAny_bind (wpAny_bind (wpAny_load (Heap.get?_push_of_some _ (Heap.get?_push_of_some _ hC)) (wpAny_pure ?_)))))
    refine wpAny_pure (wpAny_pure ?_)
    show R _ _
    rw [Heap.size_push]
    exact hq
  repeat (first | simp only [beq_self_eq_true, Bool.not_true, Bool.false_eq_true, if_false, if_true] | (rw [cn]; simp only [Bool.false_eq_true, if_false]) | (cases hsig : Manifest.signature? "list.__new__" with
    | none => exact wpAny_pure fin
    | some sig => (rw [sg sig hsig]; exact wpAny_pure fin)) | exact fin | lk)
end
end Mine

namespace Mine
open Builtin Builtin.ObjectAttr
section
variable {w : World} {A : Around} {mg mb : Str → Option Value} {E : Value → Shared → Prop} {s : Shared}
variable {h : Heap} {g : Array GenState} {d : Drawn} {t : Nat} {os : OsState} {R : Result → Shared → Prop}

theorem refuse_acc (x : Addr) : refuseLoop (.ref x) "__setattr__" [.ref 122, .type "list", .type "object"] = pure () := by
  rw [refuseLoop_ref]
  kernel_rfl

theorem set_init {Q : Unit → Shared → Prop} {x dx : Addr} {v : Value} (X : (KF w).In s.heap) (hx : s.heap.get? x = some (accObj dx #[] 0)) (hd : s.heap.get? dx = some emptyDict)
    (h : ∀ s' hs tk n, (∀ b o, b ≠ dx → s.heap.get? b = some o → s'.heap.get? b = some o) → s'.os = s.os → s'.gens = s.gens → s'.heap.get? dx = some (dictOf [⟨hs, .str (Str.ofString "_initial_size") tk, v⟩] n) → Q () s') :
    wpAny (model PR w) A (setAttr (.ref x) (Str.ofString "_initial_size") v) Q E s := by
  have I : InstAt s.heap x (accObj dx #[] 0) 122 (some emptyDict) := ⟨hx, rfl, rfl, hd⟩
  refine set_plain X I k_sa ?_
  have SF := PySem.F.store_object
  have X' : (KF w).In ({ s with toks := s.toks + 1 } : Shared).heap := X
  have I' : InstAt ({ s with toks := s.toks + 1 } : Shared).heap x (accObj dx #[] 0) 122 (some emptyDict) := I
  have sub : Looks (model PR w) ({ s with toks := s.toks + 1 } : Shared).heap (isInstance (.ref x) (.type "object")) true := I'.type.andThen (looks_mroIn X (by unfold mroIn; rw [k122]; rfl))
  refine codeAny_call_builtin SF.slot.plain SF.entry (@check_slot (model PR w) _ _ _ "object.__setattr__" "object" "__setattr__" (.ref x) [.str (Str.ofString "_initial_size") s.toks, v] [] _ SF.kind SF.split sub (SF.args (.ref x) (.str (Str.ofString "_initial_size") s.toks) v) ?_)
  rw [osa_eq, refuse_eq]
  refine wpAny_bind (wpAny_bind (I'.type.here (wpAny_bind ((looks_mro X').here ?_))))
  rw [refuse_acc]
  refine wpAny_pure (wpAny_bind (I'.type.here (wpAny_bind ((looks_findIn X' k_is).here (wpAny_bind ((show Looks (model PR w) _ (storeTaker? none) none from Looks.now).here ?_))))))
  refine wpAny_bind (wpAny_pure (wpAny_bind (wpAny_bind (wpAny_loadPart hx (wpAny_bind ((looks_clsIn X' k122).here ?_))))))
  refine wpAny_pure (a := some dx) (wpAny_bind (wpAny_pure (wpAny_bind ?_)))
  unfold nsSet
  refine wpAny_bind (wpAny_bind (wpAny_askSetting (wpAny_pure (wpAny_bind (wpAny_mkText (wpAny_bind (wpAny_loadPart hd ?_)))))))
  have D' := Heap.get?_update_self (Obj.putName (Str.ofString "_initial_size") (PyData.keyHash w.params (Str.ofString "_initial_size")) (.str (Str.ofString "_initial_size") (s.toks + 1)) v) hd rfl
  rw [show emptyDict = dictOf [] 0 from rfl, putName_dict] at D'
  have c : (!(#[] : Array DictEntry).any (·.key.isStr (Str.ofString "_initial_size")) && (#[] : Array DictEntry).any (·.refKey)) = false := by simp
  dsimp only
  rw [aRefKeyMayBeTheName_at, c]
  refine wpAny_updatePart hd ?_
  refine wpAny_bind (wpAny_lookBehind D' (pastItsLine_dict (by rw [List.size_toArray, sizeLine_eq]; simp [putL])) ?_)
  exact wpAny_pure (h _ _ _ _ (fun b o hb e => (Heap.get?_update_other _ _ (Ne.symm hb)).trans e) rfl rfl D')

theorem run_init {x dx : Addr} {P : Fin → Shared → Prop} (hx : h.get? x = some (accObj dx #[] 0))
    (hq : ∀ h' c', h'.get? x = some (accObj dx #[] c') → (∀ b o, b ≠ x → h.get? b = some o → h'.get? b = some o) → P (.done (.ret .none)) ⟨h', g, d, t, os⟩) :
    wpAny (model PR w) A (Builtin.«list.__init__» ⟨[.ref x], []⟩) P E ⟨h, g, d, t, os⟩ := by
  unfold Builtin.«list.__init__»
  dsimp only
  simp only [List.isEmpty_nil, Bool.not_true, Bool.false_eq_true, if_false]
  rw [if_neg (by simp)]
  refine wpAny_bind (wpAny_bind (wpAny_seqItems hx rfl (wpAny_pure ?_)))
  refine wpAny_bind ?_
  refine wpAny_updateSeq (hz := by simp) hx rfl ?_ (by simp)
  obtain ⟨c', e⟩ := seq_update (f := fun _ => #[]) (its' := #[]) hx rfl
  have hg : letGo (#[] : Array Value).toList.reverse = pure () := by rfl
  rw [hg]
  refine wpAny_bind (wpAny_pure (wpAny_pure ?_))
  exact hq _ c' e fun b o hb e => (Heap.get?_update_other _ _ (Ne.symm hb)).trans e


theorem k_keep : keepIn (KF w) (.ref 122) = true := by kernel_rfl

theorem init_ok {Q : Value → Shared → Prop} {x dx : Addr} {B : Heap} (GB : GX w mg mb B) (ext : Ext B s.heap) (room : A.depth < recursionLimit) (hx : s.heap.get? x = some (accObj dx #[] 0)) (hd : s.heap.get? dx = some emptyDict) (hxd : dx ≠ x)
    (hx0 : B.get? x = none) (hd0 : B.get? dx = none)
    (h : ∀ s', (∀ b o, b ≠ x → b ≠ dx → s.heap.get? b = some o → s'.heap.get? b = some o) → s'.os = s.os → s'.gens = s.gens → Acc s'.heap x dx [] → Q .none s') :
    wpAny (model PR w) A (call (.ref 59) [.ref x]) Q E s := by
  have G : GX w mg mb s.heap := GB.keeps ext
  have hb : BindsTo s fIn ⟨[.ref x], []⟩ [(Str.ofString "self", .ref x), (Str.ofString "initial_size", .int 0 244)] :=
    BindsTo.of_defaults (T := 51) rfl (G.kx _ _ (show (KF w).lookup 51 = some ⟨.type "tuple", none, .seq #[.int 0 244] 0, #[]⟩ from rfl)) rfl rfl rfl
  refine m_enter (f := 59) (cda := 58) (i := 0) G room o_in (by rfl) hb (by decide) (locs rfl) fun h₁ F => ?_
  obtain ⟨hh, gg, dd, tt, oo⟩ := s
  have G₁ : GX w mg mb h₁ := G.keeps F.keep
  refine ks_wpAt_execs_cons (ks_wpAt_Assign_Attr (wpAt_of_wpAny (wpAny_Name (wpAny_loadName_local rfl rfl F.ns (v := .int 0 244) rfl (wpAny_Name (wpAny_loadName_local rfl rfl F.ns (v := .ref x) rfl ?_))))))
  refine set_init G₁.kx (F.keep _ _ hx) (F.keep _ _ hd) fun s₂ hs tk n oth eo eg hdx => ?_
  obtain ⟨h₂, g₂, d₂, t₂, o₂⟩ := s₂
  have ne : ∀ {b o}, B.get? b = some o → b ≠ dx := fun e z => by rw [z, hd0] at e; cases e
  have nx : ∀ {b o}, B.get? b = some o → b ≠ x := fun e z => by rw [z, hx0] at e; cases e
  have G₂ : GX w mg mb h₂ := GB.keeps fun b o e => oth b o (ne e) (F.keep _ _ (ext _ _ e))
  have hx₂ : h₂.get? x = some (accObj dx #[] 0) := oth _ _ (Ne.symm hxd) (F.keep _ _ hx)
  have hLx : hh.objs.size ≠ dx := fun z => by have := Heap.lt_size hd; rw [← z] at this; exact absurd this (Nat.lt_irrefl _)
  have F₂ := F.ns.at' (h' := h₂) fun o e => oth _ o hLx e
  refine ks_wpAt_execs_cons (ks_wpAt_Expr_any ?_)
  refine at_supcall (fd := fIn) (id := "list.__init__") (bt := "method-wrapper") (dt := "wrapper_descriptor") F₂ G₂ hx₂ o_in rfl rfl c_in (by decide) rfl rfl rfl rfl k_init ty_init slot_wd.lookup
    (fun h t A Q E X hx q => get_init X hx rfl q) (fun h b hb => keep_w hb) (by decide) (by decide) (by decide +kernel) entry_linit (fun _ _ _ => ck_init) rfl fun h' t' e hx' => ?_
  refine run_init hx' fun h'' c'' hx'' oth' => ⟨_, rfl, ?_⟩
  refine wpAt_of_wpAny (wpAny_execs_nil ?_)
  refine h _ (fun b o hb hb' z => oth' b o hb (e _ _ (oth b o hb' (F.keep _ _ z)))) eo eg ⟨c'', _, _, _, _, hx'', oth' _ _ hxd (e _ _ hdx), hxd⟩

theorem acc_new {Q : Value → Shared → Prop} {B : Heap} (GB : GX w mg mb B) (ext : Ext B s.heap) (room : Room A 3)
    (h : ∀ s' x dx, Now s s' → s.heap.get? x = none → s.heap.get? dx = none → Acc s'.heap x dx [] → Q (.ref x) s') :
    wpAny (model PR w) A (call (.ref 122) []) Q E s := by
  obtain ⟨hh, gg, dd, tt, oo⟩ := s
  have X : (KF w).In hh := GB.kx.keeps ext
  refine wpAny_call (codeAny_of_tree ?_)
  show wpAny _ _ (callAny (.ref 122) _) _ _ _
  refine nd_load (X _ _ (show (KF w).lookup 122 = some ⟨_, _, _, _⟩ from rfl)) ?_
  show wpAny _ _ (callAny.viaDunder (.ref 122) _) _ _ _
  unfold callAny.viaDunder
  refine wpAny_bind ((looks_specialIn X k_call).at ?_)
  dsimp only
  rw [tc_bind]
  refine wpAny_bind (wpAny_pure (wpAny_bind (wpAny_pure ?_)))
  refine wpAny_pure (a := Fin.again (.call (.builtin "type.__call__") ⟨[.ref 122], []⟩)) (And.intro rfl ?_)
  refine codeAny_call_builtin_at (Code.quiet_builtin _ (by decide +kernel)) entry_typeCall (check_slot tc_kind tc_split (looks_instIn X k_inst) (tc_args _ _ _) ?_)
  unfold Builtin.«type.__call__»
  have hm := looks_mro X
  have L4 := l_made X
  repeat (first | simp only [List.isEmpty_cons, Bool.false_eq_true, if_false] | with_reducible refine wpAny_call ?_ | lk)
  refine new_acc X ?_
  have k : Ext hh ((hh.push emptyDict).push (accObj hh.objs.size #[] 0)) := fun b o e => Heap.get?_push_of_some _ (Heap.get?_push_of_some _ e)
  have hx : ((hh.push emptyDict).push (accObj hh.objs.size #[] 0)).get? (hh.objs.size + 1) = some (accObj hh.objs.size #[] 0) := by heap_get
  have hdx : ((hh.push emptyDict).push (accObj hh.objs.size #[] 0)).get? hh.objs.size = some emptyDict := by heap_get
  have X' : (KF w).In ((hh.push emptyDict).push (accObj hh.objs.size #[] 0)) := X.keeps k
  have t1 : Looks (model PR w) ((hh.push emptyDict).push (accObj hh.objs.size #[] 0)) (typeOf (.ref (hh.objs.size + 1))) (.ref 122) := (Looks.ld hx).andThen .now
  have s1 := l_self X'
  have i1 := looks_findIn (M := model PR w) X' k_in
  have b1 := bind_fn (M := model PR w) X' (.ref (hh.objs.size + 1)) (show typeIn (KF w) (.ref 59) = some (.type "function") from rfl)
  have f0 : hh.get? (hh.objs.size + 1) = none := get_fresh (Nat.le_succ _)
  have f1 : hh.get? hh.objs.size = none := get_fresh (Nat.le_refl _)
  unfold isInstance callSpecial? specialOf
  repeat (first | (refine init_ok GB (fun b o e => k _ _ (ext _ _ e)) ?_ hx hdx (Nat.ne_of_lt (Nat.lt_succ_self _)) (fresh_of_ext ext f0) (fresh_of_ext ext f1) fun s' oth eo eg hacc => ?_) | lk)
  · have := room.dp; show A.depth + 1 < 1000; omega
  · refine wpAny_pure (wpAny_pure (h _ _ _ ⟨fun b o e => oth b o (fun z => ?_) (fun z => ?_) (k _ _ e), eo, fun z => by rw [eg]; exact z⟩ f0 f1 hacc))
    · rw [z] at e; rw [f0] at e; cases e
    · rw [z] at e; rw [f1] at e; cases e
end
end Mine

namespace Mine

def All2 {α β : Type} (R : α → β → Prop) : List α → List β → Prop
  | [], [] => True
  | a :: as, b :: bs => R a b ∧ All2 R as bs
  | _, _ => False
theorem All2.mono {α β : Type} {R S : α → β → Prop} (h : ∀ a b, R a b → S a b) : ∀ {as : List α} {bs : List β}, All2 R as bs → All2 S as bs
  | [], [], _ => trivial
  | _ :: _, _ :: _, x => ⟨h _ _ x.1, All2.mono h x.2⟩
  | [], _ :: _, x => x.elim
  | _ :: _, [], x => x.elim
theorem All2.len {α β : Type} {R : α → β → Prop} : ∀ {as : List α} {bs : List β}, All2 R as bs → as.length = bs.length
  | [], [], _ => rfl
  | _ :: _, _ :: _, x => by simp [All2.len x.2]
  | [], _ :: _, x => x.elim
  | _ :: _, [], x => x.elim
theorem All2.snoc {α β : Type} {R : α → β → Prop} : ∀ {as : List α} {bs : List β} {a : α} {b : β}, All2 R as bs → R a b → All2 R (as ++ [a]) (bs ++ [b])
  | [], [], _, _, _, y => ⟨y, trivial⟩
  | _ :: _, _ :: _, _, _, x, y => ⟨x.1, All2.snoc x.2 y⟩
  | [], _ :: _, _, _, x, _ => x.elim
  | _ :: _, [], _, _, x, _ => x.elim
theorem All2.at {α β : Type} {R : α → β → Prop} : ∀ {as : List α} {bs : List β} {k : Nat} {b : β}, All2 R as bs → bs[k]? = some b → ∃ a, as[k]? = some a ∧ R a b
  | [], [], _, _, _, e => by simp at e
  | a :: _, _ :: _, 0, _, x, e => by simp at e; subst e; exact ⟨a, rfl, x.1⟩
  | _ :: _, _ :: _, k + 1, _, x, e => by simp at e; obtain ⟨a, h1, h2⟩ := All2.at x.2 e; exact ⟨a, by simpa using h1, h2⟩
  | [], _ :: _, _, _, x, _ => x.elim
  | _ :: _, [], _, _, x, _ => x.elim

/-- what a subscript's bracket asks of the thing it stands behind -/
def Brk (M : Model) (o : Value) (s : Shared) : Prop := o ≠ .builtin "sys.modules#opaque" ∧ ∃ id, ∀ (A : Around) (Q : Option Value → Shared → Prop) (E : Value → Shared → Prop), Q (some (.builtin id)) s → wpAny M A (specialOf o "__getitem__") Q E s
section
variable {w : World} {A : Around} {E : Value → Shared → Prop} {s : Shared} {env : Env}
theorem brk_slot {o : Value} {T id : String} (hT : s.TypeIs o T) (hl : typeLookup (.type T) "__getitem__" = pure (some (.builtin id))) : Brk (model PR w) o s :=
  ⟨hT.not_modules, id, fun _ _ _ q => wpAny_specialOf hT hl q⟩
theorem brk_list {l : Addr} {o : Obj} (hl : s.heap.get? l = some o) (hc : o.cls = .type "list") : Brk (model PR w) (.ref l) s := brk_slot ⟨_, hl, hc⟩ list_getitem_lookup
theorem brk_tuple {l : Addr} {o : Obj} (hl : s.heap.get? l = some o) (hc : o.cls = .type "tuple") : Brk (model PR w) (.ref l) s := brk_slot ⟨_, hl, hc⟩ F.slot_tuple_getitem.lookup
theorem brk_str {x : Str} {t : Tok} : Brk (model PR w) (.str x t) s := brk_slot (typeIs_str s x t) F.slot_str_getitem.lookup
theorem brk_dict {l : Addr} {o : Obj} (hl : s.heap.get? l = some o) (hc : o.cls = .type "dict") : Brk (model PR w) (.ref l) s := brk_slot ⟨_, hl, hc⟩ F.slot_dict_getitem.lookup
theorem brk_acc {p dx : Addr} {its : Array Value} {c : Nat} (X : (KF w).In s.heap) (hp : s.heap.get? p = some (accObj dx its c)) : Brk (model PR w) (.ref p) s := by
  refine ⟨fun e => (by cases e), "list.__getitem__", fun A Q E q => ?_⟩
  obtain ⟨h, g, d, t, os⟩ := s
  have L0 : Looks (model PR w) h (typeOf (.ref p)) (.ref 122) := Looks.andThen (Looks.ld hp) Looks.now
  have L1 := looks_findIn (M := model PR w) X k_gi
  unfold specialOf
  exact wpAny_bind (L0.at (L1.at q))

theorem sub_any {value slice : Expr} {pos : Pos} {Q : Value → Shared → Prop} (h : wpAny (model PR w) A (eval value env) (fun o s₁ => wpAny (model PR w) A (eval slice env) (fun i s₂ => Brk (model PR w) o s₂ ∧ wpAny (model PR w) A (getItem o i) Q E s₂) E s₁) E s)
    (hs : ∀ o i, subscripted slice false o i = operate [o, i] (getItem o i) := by intro _ _; rfl) :
    wpAny (model PR w) A (eval (.Subscript value slice pos) env) Q E s := by
  rw [eval_Subscript]
  refine wpAny_bind (wpAny_mono h (fun o s₁ h₁ => wpAny_bind (wpAny_holding (wpAny_mono h₁ (fun i s₂ h₂ => wpAny_bind (wpAny_standAt ?_)) fun _ _ x => x))) fun _ _ x => x)
  obtain ⟨⟨hne, id, hsp⟩, hg⟩ := h₂
  refine wpAny_bind ?_
  rw [getitemInPython_of_ne hne]
  refine wpAny_bind (hsp _ _ _ ?_)
  have fin : wpAny (model PR w) A (operate [o, i] (getItem o i)) (fun r s₃ => wpAny (model PR w) A (letTemporaryGo value o r >>= fun _ => pure r) Q E s₃) E s₂ :=
    wpAny_operating (wpAny_mono hg (fun r s₃ h₃ => wpAny_bind (wpAny_letTemporaryGo (wpAny_pure h₃))) fun _ _ x => x)
  rw [← hs] at fin
  exact wpAny_pure (wpAny_bind fin)

theorem any_no {h : Heap} (X : (KF w).In h) : ∀ (l : List String), (∀ n ∈ l, ([.ref 122, .type "list", .type "object"] : List Value).contains (.type n) = false) → Looks (model PR w) h (l.anyM fun n => isSubtype (.ref 122) (.type n)) false
  | [], _ => Looks.now
  | n :: l, hn => by
    have h1 : Looks (model PR w) h (isSubtype (.ref 122) (.type n)) false := looks_mroIn X (by unfold mroIn; rw [k122]; exact congrArg some (hn n (.head _)))
    rw [List.anyM]
    exact h1.andThen (any_no X l fun m hm => hn m (.tail _ hm))

theorem run_gi {p dx : Addr} {its : Array Value} {c : Nat} {k : Int} {u : Tok} {v : Value} {P : Fin → Shared → Prop} (hp : s.heap.get? p = some (accObj dx its c)) (hfit : Builtin.List.listFitsIndex k = true) (h0 : 0 ≤ k) (hv : its[k.toNat]? = some v) (hq : P (.done (.ret v)) s) :
    wpAny (model PR w) A (Builtin.«list.__getitem__» ⟨[.ref p, .int k u], []⟩) P E s := by
  show wpAny _ _ (Builtin.List.listSubscript? (.int k u) >>= _) _ _ s
  refine wpAny_bind (wpAny_listSubscript_int hfit ?_)
  clear hfit
  obtain ⟨j, rfl⟩ := Int.eq_ofNat_of_zero_le h0
  have hv' : its[j]? = some v := hv
  show wpAny _ _ ((seqItemAt p j >>= fun r => pure (r.map (j, ·))) >>= _) _ _ s
  refine wpAny_bind (wpAny_bind (wpAny_seqItemAt hp rfl (wpAny_pure ?_)))
  rw [hv']
  first
    | exact wpAny_bind (wpAny_pure (wpAny_pure hq))
    | exact wpAny_pure hq
theorem call_gi {p dx : Addr} {its : Array Value} {c : Nat} {k : Int} {u : Tok} {v : Value} {Q : Value → Shared → Prop} (X : (KF w).In s.heap) (hp : s.heap.get? p = some (accObj dx its c)) (hfit : Builtin.List.listFitsIndex k = true) (h0 : 0 ≤ k) (hv : its[k.toNat]? = some v) (hq : Q v s) :
    wpAny (model PR w) A (call (.builtin "list.__getitem__") [.ref p, .int k u]) Q E s := by
  have hpl : plainId "list.__getitem__" = true := by decide +kernel
  have hck : ∀ (Q : Unit → Shared → Prop) (E : Value → Shared → Prop), Q () s → wpAny (model PR w) A.in1 (checkBuiltinCall "list.__getitem__" ⟨[.ref p, .int k u], []⟩) Q E s := fun Q E q =>
    check_meth (i := "list.__getitem__") (owner := "list") (n := "__getitem__") kind_gi split_gi (inst_list X hp rfl) (args_gi (.ref p) (.int k u)) q
  exact wpAny_call (codeAny_call_builtin hpl entry_gi (hck _ _ (run_gi hp hfit h0 hv hq)))
end
section
variable {w : World} {A : Around} {E : Value → Shared → Prop} {s : Shared} {env : Env}
theorem bind_gi (self : Value) : bindSpecial (.builtin "list.__getitem__") self = pure (.builtin "list.__getitem__", [self]) := slot_list_getitem.bind self
theorem get_acc {p dx : Addr} {its : Array Value} {c : Nat} {k : Int} {u : Tok} {v : Value} {Q : Value → Shared → Prop} (X : (KF w).In s.heap) (hp : s.heap.get? p = some (accObj dx its c)) (hfit : Builtin.List.listFitsIndex k = true) (h0 : 0 ≤ k) (hv : its[k.toNat]? = some v) (hq : Q v s) :
    wpAny (model PR w) A (getItem (.ref p) (.int k u)) Q E s := by
  obtain ⟨h, g, d, t, os⟩ := s
  have L0 : Looks (model PR w) h (typeOf (.ref p)) (.ref 122) := Looks.andThen (Looks.ld hp) Looks.now
  have L1 := looks_findIn (M := model PR w) X k_gi
  unfold getItem
  try with_reducible refine wpAny_holding ?_
  first | refine wpAny_bind (wpAny_pure ?_) | skip
  unfold sequenceKey
  refine wpAny_bind (wpAny_bind (L0.at ?_))
  refine wpAny_bind ((any_no X seqItemTypes (fun n hn => by rw [seqItemTypes, List.mem_singleton] at hn; subst hn; rfl)).at ?_)
  refine wpAny_pure ?_
  unfold callSpecial? specialOf
  refine wpAny_bind (wpAny_bind (wpAny_bind (L0.at (L1.at ?_))))
  refine wpAny_holding ?_
  dsimp only
  rw [bind_gi]
  refine wpAny_bind (wpAny_pure (wpAny_bind ?_))
  refine call_gi (s := ⟨h, g, d, t, os⟩) X hp hfit h0 hv ?_
  exact wpAny_pure (wpAny_pure hq)
end
end Mine

namespace Mine

structure Ent where
  lo : Nat
  hi : Nat
  bg : Int
/-- apart from the three that change -/
def NX (L p l b : Addr) : Prop := b ≠ L ∧ b ≠ p ∧ b ≠ l
def EntAt (h : Heap) (L p l : Addr) (v : Value) (e : Ent) : Prop := ∃ a t1 t2, v = .ref a ∧ NX L p l a ∧ h.get? a = some { cls := .type "tuple", data := .seq #[.str ⟨#[e.lo, e.hi]⟩ t1, .str (Str.ofString (toString e.bg)) t2] }
def NumAt (v : Value) (i : Int) : Prop := ∃ t, v = .int i t

structure Stat (w : World) (mg mb : Str → Option Value) (B H : Heap) (L p dx l u : Addr) (us : List U) : Prop where
  G : GX w mg mb B
  BH : Ext B H
  bL : B.get? L = none
  bp : B.get? p = none
  bl : B.get? l = none
  pL : p ≠ L
  lL : l ≠ L
  pl : p ≠ l
  dxX : NX L p l dx
  dxo : ∃ hs tk v n, H.get? dx = some (dictOf [⟨hs, .str (Str.ofString "_initial_size") tk, v⟩] n)
  uX : NX L p l u
  uo : ∃ vs c, H.get? u = some { cls := .type "list", data := .seq vs c } ∧ All2 (fun v (x : U) => ∃ a t1 t2, v = .ref a ∧ NX L p l a ∧ H.get? a = some { cls := .type "tuple", data := .seq #[.int x.1 t1, .str x.2 t2] }) vs.toList us

structure SS (H : Heap) (s₀ : Shared) (L p dx l : Addr) (m : Str → Option Value) (st : List Ent) (lk : List Int) (s : Shared) : Prop where
  kept : ∀ b o, NX L p l b → H.get? b = some o → s.heap.get? b = some o
  ns : s.heap.Ns L m
  acc : ∃ c ri, s.heap.get? p = some (accObj dx (List.reverse ri).toArray c) ∧ All2 (EntAt s.heap L p l) ri st
  lst : ∃ c vs, s.heap.get? l = some { cls := .type "list", data := .seq (List.toArray vs) c } ∧ All2 NumAt vs lk
  os : s.os = s₀.os
  bare : AllBare s₀.gens → AllBare s.gens

section
variable {w : World} {A : Around} {mg mb : Str → Option Value} {E : Value → Shared → Prop} {s s₀ : Shared} {B H : Heap} {L p dx l u : Addr} {us : List U} {m : Str → Option Value} {st : List Ent} {lk : List Int}

theorem SS.gx (T : Stat w mg mb B H L p dx l u us) (σ : SS H s₀ L p dx l m st lk s) : GX w mg mb s.heap :=
  T.G.keeps fun b o e => σ.kept b o ⟨fun z => (by rw [z, T.bL] at e; cases e), fun z => (by rw [z, T.bp] at e; cases e), fun z => (by rw [z, T.bl] at e; cases e)⟩ (T.BH _ _ e)
theorem SS.base (T : Stat w mg mb B H L p dx l u us) (σ : SS H s₀ L p dx l m st lk s) : Ext B s.heap :=
  fun b o e => σ.kept b o ⟨fun z => (by rw [z, T.bL] at e; cases e), fun z => (by rw [z, T.bp] at e; cases e), fun z => (by rw [z, T.bl] at e; cases e)⟩ (T.BH _ _ e)
theorem SS.tk {tk : Nat} (σ : SS H s₀ L p dx l m st lk s) : SS H s₀ L p dx l m st lk { s with toks := tk } := ⟨σ.kept, σ.ns, σ.acc, σ.lst, σ.os, σ.bare⟩
theorem SS.now {s' : Shared} (σ : SS H s₀ L p dx l m st lk s) (n : Now s s') : SS H s₀ L p dx l m st lk s' :=
  ⟨fun b o h e => n.ext _ _ (σ.kept b o h e), σ.ns.keeps n.ext, let ⟨c, ri, h1, h2⟩ := σ.acc; ⟨c, ri, n.ext _ _ h1, h2.mono fun v e ⟨a, t1, t2, x, y, z⟩ => ⟨a, t1, t2, x, y, n.ext _ _ z⟩⟩,
    let ⟨c, vs, h1, h2⟩ := σ.lst; ⟨c, vs, n.ext _ _ h1, h2⟩, n.os.trans σ.os, fun z => n.bare (σ.bare z)⟩
theorem SS.ext {h' : Heap} {tk : Nat} (σ : SS H s₀ L p dx l m st lk s) (k : Ext s.heap h') : SS H s₀ L p dx l m st lk { s with heap := h', toks := tk } := σ.now (s' := { s with heap := h', toks := tk }) ⟨k, rfl, id⟩
theorem SS.accAt (T : Stat w mg mb B H L p dx l u us) (σ : SS H s₀ L p dx l m st lk s) : ∃ ri, Acc s.heap p dx (List.reverse ri) ∧ All2 (EntAt s.heap L p l) ri st := by
  obtain ⟨c, ri, h1, h2⟩ := σ.acc
  obtain ⟨hs, tk, v, n, h3⟩ := T.dxo
  exact ⟨ri, ⟨c, hs, tk, v, n, h1, σ.kept _ _ T.dxX h3, T.dxX.2.1⟩, h2⟩
/-- the pile has changed -/
theorem SS.pile {s' : Shared} {st' : List Ent} {ri : List Value} (T : Stat w mg mb B H L p dx l u us) (σ : SS H s₀ L p dx l m st lk s) (b : But p s s') (ha : Acc s'.heap p dx (List.reverse ri)) (hr : All2 (EntAt s'.heap L p l) ri st') : SS H s₀ L p dx l m st' lk s' :=
  ⟨fun b' o h e => b.heap _ _ h.2.1 (σ.kept _ _ h e), σ.ns.at' fun o e => b.heap _ _ (Ne.symm T.pL) e, let ⟨c, _, _, _, _, h1, _⟩ := ha; ⟨c, ri, h1, hr⟩,
    let ⟨c, vs, h1, h2⟩ := σ.lst; ⟨c, vs, b.heap _ _ (Ne.symm T.pl) h1, h2⟩, b.os.trans σ.os, fun z => b.bare (σ.bare z)⟩
theorem EntAt.but {s s' : Shared} {v : Value} {e : Ent} (x : EntAt s.heap L p l v e) (b : But p s s') : EntAt s'.heap L p l v e := let ⟨a, t1, t2, x, y, z⟩ := x; ⟨a, t1, t2, x, y, b.heap _ _ y.2.1 z⟩

theorem ss_store {Q : Unit → Shared → Prop} {cd : Value} {x : Str} {v : Value} (T : Stat w mg mb B H L p dx l u us) (σ : SS H s₀ L p dx l m st lk s) (h : ∀ s', SS H s₀ L p dx l (fun y => if y = x then some v else m y) st lk s' → Q () s')
    (hl : (envOf (Str.ofString "_law_searched") (fnScope 64) L 157 cd).kindOf x = some .local := by rfl) : wpAny (model PR w) A (storeName (envOf (Str.ofString "_law_searched") (fnScope 64) L 157 cd) x v) Q E s := by
  refine wpAny_storeName_local hl σ.ns (fun h' hn' hs' => ?_) rfl
  have k : ∀ b o, b ≠ L → s.heap.get? b = some o → h'.get? b = some o := fun b o hb e => (hs'.2 b hb).trans e
  exact h _ ⟨fun b o h e => k _ _ h.1 (σ.kept b o h e), hn', let ⟨c, ri, h1, h2⟩ := σ.acc; ⟨c, ri, k _ _ T.pL h1, h2.mono fun v e ⟨a, t1, t2, x, y, z⟩ => ⟨a, t1, t2, x, y, k _ _ y.1 z⟩⟩,
    let ⟨c, vs, h1, h2⟩ := σ.lst; ⟨c, vs, k _ _ T.lL h1, h2⟩, σ.os, σ.bare⟩
theorem ss_name {Q : Value → Shared → Prop} {cd : Value} {x : Str} {pos : Pos} {v : Value} (σ : SS H s₀ L p dx l m st lk s) (hv : m x = some v) (h : Q v s)
    (hl : (envOf (Str.ofString "_law_searched") (fnScope 64) L 157 cd).kindOf x = some .local := by rfl) (hd : (x == ("__debug__" : Str)) = false := by decide) : wpAny (model PR w) A (eval (.Name x pos) (envOf (Str.ofString "_law_searched") (fnScope 64) L 157 cd)) Q E s :=
  wpAny_Name (wpAny_loadName_local rfl hl σ.ns hv h) hd

/-- pile.part_count() -/
theorem ss_pc {Q : Value → Shared → Prop} {env : Env} {pl : Sem Bool} {pos : Pos} (T : Stat w mg mb B H L p dx l u us) (σ : SS H s₀ L p dx l m st lk s) (room : Room A 4)
    (h : ∀ t s', SS H s₀ L p dx l m st lk s' → Q (.int st.length t) s') :
    wpAny (model PR w) A (getMethod (.ref p) (Str.ofString "part_count") pl) (fun fx s₂ => wpAny (model PR w) A (callWith pos fx.1 fx.2 (backTo pos (starEach [] env)) []) Q E s₂) E s := by
  obtain ⟨ri, ha, hr⟩ := σ.accAt T
  have G := σ.gx T
  obtain ⟨hh, gg, dd, tt, oo⟩ := s
  obtain ⟨c, hs, tk, v, n, h1, h2, h3⟩ := ha
  refine gm_acc G.kx h1 h2 gl_pc k_pc (looks_fn G.kx o_pc) not_fn ?_
  refine callWith_meth0 rfl (G.kx _ _ o_pc) ?_
  refine pc_ok G room.lt h1 fun t₂ s₂ n₂ => ?_
  have := hr.len
  rw [show ((ri.reverse.toArray.size : Nat) : Int) = (st.length : Int) by simp [this]]
  exact h _ _ (σ.now n₂)

/-- pile.pop() -/
theorem ss_pop {Q : Value → Shared → Prop} {env : Env} {pl : Sem Bool} {pos : Pos} {e : Ent} (T : Stat w mg mb B H L p dx l u us) (σ : SS H s₀ L p dx l m (e :: st) lk s) (room : Room A 4) (hz : st.length ≤ 900)
    (h : ∀ y s', SS H s₀ L p dx l m st lk s' → EntAt s'.heap L p l y e → Q y s') :
    wpAny (model PR w) A (getMethod (.ref p) (Str.ofString "pop") pl) (fun fx s₂ => wpAny (model PR w) A (callWith pos fx.1 fx.2 (backTo pos (starEach [] env)) []) Q E s₂) E s := by
  obtain ⟨ri, ha, hr⟩ := σ.accAt T
  have G := σ.gx T
  obtain ⟨hh, gg, dd, tt, oo⟩ := s
  cases ri with
  | nil => exact hr.elim
  | cons y ri =>
    have ha' := ha
    obtain ⟨c, hs, tk, v, n, h1, h2, h3⟩ := ha
    refine gm_acc G.kx h1 h2 gl_pop k_fpop (looks_fn G.kx o_pop) not_fn ?_
    refine callWith_meth0 rfl (G.kx _ _ o_pop) ?_
    have hlen := hr.2.len
    rw [List.reverse_cons] at ha'
    refine pop_ok (its := ri.reverse) G (room.mono (by omega)) ha' (by simp; omega) fun s₂ b₂ ha₂ => ?_
    exact h _ _ (σ.pile T b₂ ha₂ (hr.2.mono fun v e x => x.but b₂)) (hr.1.but b₂)

/-- pile.push(bounds, begin), once both are there -/
theorem ss_push {Q : Value → Shared → Prop} {e : Ent} {t1 t2 : Tok} (T : Stat w mg mb B H L p dx l u us) (σ : SS H s₀ L p dx l m st lk s) (room : Room A 4) (hz : st.length ≤ 900)
    (h : ∀ s', SS H s₀ L p dx l m (e :: st) lk s' → Q .none s') :
    wpAny (model PR w) A (call (.ref 66) [.ref p, .str ⟨#[e.lo, e.hi]⟩ t1, .str (Str.ofString (toString e.bg)) t2]) Q E s := by
  obtain ⟨ri, ha, hr⟩ := σ.accAt T
  have G := σ.gx T
  have hlen := hr.len
  refine push_ok G room.lt ha (by simp; omega) fun s' tp b hf ht ha' => ?_
  have hnx : NX L p l tp := by
    obtain ⟨oL, es, ep, q, _⟩ := σ.ns
    obtain ⟨_, _, q2, _⟩ := σ.acc
    obtain ⟨_, _, q3, _⟩ := σ.lst
    exact ⟨fun z => (by rw [z, q] at hf; cases hf), fun z => (by rw [z, q2] at hf; cases hf), fun z => (by rw [z, q3] at hf; cases hf)⟩
  rw [← List.reverse_cons] at ha'
  exact h _ (σ.pile T b ha' ⟨⟨tp, t1, t2, rfl, hnx, ht⟩, hr.mono fun v e x => x.but b⟩)
end
end Mine

namespace Mine
theorem lt_one (a b : Nat) : (([a] : List Nat) < [b]) ↔ a < b := by
  constructor
  · intro h
    cases h with
    | rel h => exact h
    | cons h => cases h
  · intro h; exact List.Lex.rel h
section
variable {w : World} {A : Around} {mg mb : Str → Option Value} {E : Value → Shared → Prop} {s : Shared}

theorem CmpOf.str_gt {prog : Program} {P : Nat → Value → Prop} (val : Nat → Nat) (hval : ∀ i v, P i v → ∃ t, v = .str ⟨#[val i]⟩ t) :
    CmpOf prog w A .Gt P (fun i j => decide (val i > val j)) := fun i j vi vj s Q E hi hj h => by
  obtain ⟨t, rfl⟩ := hval i vi hi
  obtain ⟨u, rfl⟩ := hval j vj hj
  refine richCompare_gives (op := .Gt) (typeIs_str s _ t) (typeIs_str s _ u) F.slot_str_gt F.entry_str_gt (F.args_str_gt_2 _ _) (gives_str_gt _ _ t u) (fun x => nomatch x) ?_
  rw [show (decide ((⟨#[val j]⟩ : Str).cps.toList < (⟨#[val i]⟩ : Str).cps.toList)) = decide (val i > val j) from decide_eq_decide.mpr (lt_one _ _)]
  exact h
theorem CmpOf.str_lt {prog : Program} {P : Nat → Value → Prop} (val : Nat → Nat) (hval : ∀ i v, P i v → ∃ t, v = .str ⟨#[val i]⟩ t) :
    CmpOf prog w A .Lt P (fun i j => decide (val i < val j)) := fun i j vi vj s Q E hi hj h => by
  obtain ⟨t, rfl⟩ := hval i vi hi
  obtain ⟨u, rfl⟩ := hval j vj hj
  refine richCompare_gives (op := .Lt) (typeIs_str s _ t) (typeIs_str s _ u) F.slot_str_lt F.entry_str_lt (F.args_str_lt_2 _ _) (gives_str_lt _ _ t u) (fun x => nomatch x) ?_
  rw [show (decide ((⟨#[val i]⟩ : Str).cps.toList < (⟨#[val j]⟩ : Str).cps.toList)) = decide (val i < val j) from decide_eq_decide.mpr (lt_one _ _)]
  exact h
def at2 (a b : Nat) : Nat → Nat | 0 => a | _ => b
theorem at2_is {a b : Nat} {t u : Tok} {i : Nat} {v : Value} (h : (#[Value.str ⟨#[a]⟩ t, Value.str ⟨#[b]⟩ u] : Array Value)[i]? = some v) : ∃ t, v = .str ⟨#[at2 a b i]⟩ t := by
  match i, h with
  | 0, h => simp at h; exact ⟨t, h.symm⟩
  | 1, h => simp at h; exact ⟨u, h.symm⟩
  | i + 2, h => simp at h

theorem max2 {a b : Nat} {t u : Tok} {Q : Value → Shared → Prop} (hh : A.handled = none) (h : ∀ t' s', Now s s' → Q (.str ⟨#[max a b]⟩ t') s') :
    wpAny (model PR w) A (call (.builtin "max") [.str ⟨#[a]⟩ t, .str ⟨#[b]⟩ u]) Q E s := by
  have hT : (s.heap.push { cls := .type "tuple", data := .seq #[.str ⟨#[a]⟩ t, .str ⟨#[b]⟩ u] }).IsTuple s.heap.objs.size #[.str ⟨#[a]⟩ t, .str ⟨#[b]⟩ u] := ⟨_, Heap.get?_push_size _ rfl, rfl, 0, rfl⟩
  refine call_max_two (wpAny_pyIter_tuple hT ?_)
  have hsz : (s.heap.push { cls := .type "tuple", data := .seq #[.str ⟨#[a]⟩ t, .str ⟨#[b]⟩ u] }).objs.size = s.heap.objs.size + 1 := Heap.size_push ..
  refine ⟨_, [_, s.heap.objs.size], [_], _, _, _, _, rfl, Walks.tuple (A := A.in1) hh _ s.heap.objs.size (by rw [hsz]; exact Nat.ne_of_lt (Nat.lt_succ_self _)) #[.str ⟨#[a]⟩ t, .str ⟨#[b]⟩ u],
    ⟨⟨_, Heap.get?_push_size _ rfl, rfl, rfl⟩, hT.push _⟩, fun c hc => ?_, by simp, CmpOf.str_gt (at2 a b) (fun _ _ => at2_is), fun v h' tk hP hk => ?_⟩
  · show c < ((s.heap.push _).push _).objs.size
    rw [Heap.size_push, hsz]
    rcases List.mem_cons.mp hc with rfl | hc
    · rw [hsz]; exact Nat.lt_succ_self _
    · rcases List.mem_cons.mp hc with rfl | hc
      · exact Nat.lt_succ_of_lt (Nat.lt_succ_self _)
      · cases hc
  · have hold : ∀ c o, s.heap.get? c = some o → h'.get? c = some o := fun c o e => by
      refine hk c o (fun hm => ?_) (Heap.get?_push_of_some _ (Heap.get?_push_of_some _ e))
      rcases List.mem_cons.mp hm with e1 | hm
      · have := Heap.lt_size e; rw [e1, hsz] at this; exact Nat.lt_irrefl _ (Nat.lt_of_succ_lt this)
      · cases hm
    have hP' : (#[Value.str ⟨#[a]⟩ t, Value.str ⟨#[b]⟩ u] : Array Value)[argBest (fun i j => decide (at2 a b i > at2 a b j)) 1]? = some v := hP
    by_cases hba : b > a
    · have e : argBest (fun i j => decide (at2 a b i > at2 a b j)) 1 = 1 := by simp [argBest, at2, hba]
      rw [e] at hP'
      simp at hP'
      subst hP'
      have := h u { s with heap := h', toks := tk } ⟨hold, rfl, id⟩
      rw [Nat.max_eq_right (Nat.le_of_lt hba)] at this
      exact this
    · have e : argBest (fun i j => decide (at2 a b i > at2 a b j)) 1 = 0 := by simp [argBest, at2, hba]
      rw [e] at hP'
      simp at hP'
      subst hP'
      have := h t { s with heap := h', toks := tk } ⟨hold, rfl, id⟩
      rw [Nat.max_eq_left (Nat.not_lt.mp hba)] at this
      exact this
theorem min2 {a b : Nat} {t u : Tok} {Q : Value → Shared → Prop} (hh : A.handled = none) (h : ∀ t' s', Now s s' → Q (.str ⟨#[min a b]⟩ t') s') :
    wpAny (model PR w) A (call (.builtin "min") [.str ⟨#[a]⟩ t, .str ⟨#[b]⟩ u]) Q E s := by
  have hT : (s.heap.push { cls := .type "tuple", data := .seq #[.str ⟨#[a]⟩ t, .str ⟨#[b]⟩ u] }).IsTuple s.heap.objs.size #[.str ⟨#[a]⟩ t, .str ⟨#[b]⟩ u] := ⟨_, Heap.get?_push_size _ rfl, rfl, 0, rfl⟩
  refine call_min_two (wpAny_pyIter_tuple hT ?_)
  have hsz : (s.heap.push { cls := .type "tuple", data := .seq #[.str ⟨#[a]⟩ t, .str ⟨#[b]⟩ u] }).objs.size = s.heap.objs.size + 1 := Heap.size_push ..
  refine ⟨_, [_, s.heap.objs.size], [_], _, _, _, _, rfl, Walks.tuple (A := A.in1) hh _ s.heap.objs.size (by rw [hsz]; exact Nat.ne_of_lt (Nat.lt_succ_self _)) #[.str ⟨#[a]⟩ t, .str ⟨#[b]⟩ u],
    ⟨⟨_, Heap.get?_push_size _ rfl, rfl, rfl⟩, hT.push _⟩, fun c hc => ?_, by simp, CmpOf.str_lt (at2 a b) (fun _ _ => at2_is), fun v h' tk hP hk => ?_⟩
  · show c < ((s.heap.push _).push _).objs.size
    rw [Heap.size_push, hsz]
    rcases List.mem_cons.mp hc with rfl | hc
    · rw [hsz]; exact Nat.lt_succ_self _
    · rcases List.mem_cons.mp hc with rfl | hc
      · exact Nat.lt_succ_of_lt (Nat.lt_succ_self _)
      · cases hc
  · have hold : ∀ c o, s.heap.get? c = some o → h'.get? c = some o := fun c o e => by
      refine hk c o (fun hm => ?_) (Heap.get?_push_of_some _ (Heap.get?_push_of_some _ e))
      rcases List.mem_cons.mp hm with e1 | hm
      · have := Heap.lt_size e; rw [e1, hsz] at this; exact Nat.lt_irrefl _ (Nat.lt_of_succ_lt this)
      · cases hm
    have hP' : (#[Value.str ⟨#[a]⟩ t, Value.str ⟨#[b]⟩ u] : Array Value)[argBest (fun i j => decide (at2 a b i < at2 a b j)) 1]? = some v := hP
    by_cases hba : b < a
    · have e : argBest (fun i j => decide (at2 a b i < at2 a b j)) 1 = 1 := by simp [argBest, at2, hba]
      rw [e] at hP'
      simp at hP'
      subst hP'
      have := h u { s with heap := h', toks := tk } ⟨hold, rfl, id⟩
      rw [Nat.min_eq_right (Nat.le_of_lt hba)] at this
      exact this
    · have e : argBest (fun i j => decide (at2 a b i < at2 a b j)) 1 = 0 := by simp [argBest, at2, hba]
      rw [e] at hP'
      simp at hP'
      subst hP'
      have := h t { s with heap := h', toks := tk } ⟨hold, rfl, id⟩
      rw [Nat.min_eq_left (Nat.not_lt.mp hba)] at this
      exact this

theorem ister_ok {Q : Value → Shared → Prop} {i : Int} {t : Tok} (G : GC mg mb s.heap) (hroom : A.depth < recursionLimit) (h : ∀ s', Now s s' → Q (.bool (decide (i < 256))) s') :
    wpAny (model PR w) A (call (.ref 136) [.int i t]) Q E s := by
  refine enter (name := Str.ofString "ISTERMINAL") (i := 60) (binds := [(Str.ofString "x", .int i t)]) G f_ister hroom (fun _ _ => rfl) (locs rfl) fun h₁ cd F => ?_
  obtain ⟨tt, hn⟩ := G.nt
  refine wpAny_execs_cons (wpAny_Return_some (wpAny_Compare1 (ld F rfl (Calls.Name_function_global rfl rfl (Calls.loadGlobal_global (env := envOf (Str.ofString "ISTERMINAL") (fnScope 60) s.heap.objs.size 136 cd) (G.keeps F.keep).g hn (lt_int ?_)) (by decide)))))
  exact h _ ⟨F.keep, rfl, id⟩
theorem iseof_ok {Q : Value → Shared → Prop} {i : Int} {t : Tok} (G : GC mg mb s.heap) (hroom : A.depth < recursionLimit) (h : ∀ s', Now s s' → Q (.bool (i == 0)) s') :
    wpAny (model PR w) A (call (.ref 143) [.int i t]) Q E s := by
  refine enter (name := Str.ofString "ISEOF") (i := 61) (binds := [(Str.ofString "x", .int i t)]) G f_iseof hroom (fun _ _ => rfl) (locs rfl) fun h₁ cd F => ?_
  obtain ⟨tt, hn⟩ := G.em
  refine wpAny_execs_cons (wpAny_Return_some (wpAny_Compare1 (ld F rfl (Calls.Name_function_global rfl rfl (Calls.loadGlobal_global (env := envOf (Str.ofString "ISEOF") (fnScope 61) s.heap.objs.size 143 cd) (G.keeps F.keep).g hn (eq_int ?_)) (by decide)))))
  exact h _ ⟨F.keep, rfl, id⟩

/-- the worth of a sign, as its number -/
def tokTab : List (Nat × Nat) := [(33,54),(37,24),(38,19),(40,7),(41,8),(42,16),(43,14),(44,12),(45,15),(46,23),(47,17),(58,11),(59,13),(60,20),(61,22),(62,21),(64,49),(91,9),(93,10),(94,32),(123,25),(124,18),(125,26),(126,31)]
def tok (c : Nat) : Option Nat := tokTab.lookup c
theorem tok_tab : ∀ p ∈ tokTab, ∃ t, nsIn (KF w) 127 ⟨#[p.1]⟩ = some (some (.int p.2 t)) := by
  intro p hp
  simp only [tokTab, List.mem_cons, List.not_mem_nil, or_false] at hp
  rcases hp with rfl | rfl | rfl | rfl | rfl | rfl | rfl | rfl | rfl | rfl | rfl | rfl | rfl | rfl | rfl | rfl | rfl | rfl | rfl | rfl | rfl | rfl | rfl | rfl
  all_goals exact ⟨_, rfl⟩
end
end Mine

namespace Mine
section
variable {w : World} {A : Around} {mg mb : Str → Option Value} {E : Value → Shared → Prop} {s : Shared}
theorem o_tok : ∃ es n, (KF w).lookup 127 = some ⟨.type "dict", none, .dict es n, #[]⟩ ∧ KeysLit w.params es.toList := ⟨_, _, rfl, by k_keys⟩
theorem tok_ok {c v : Nat} {t : Tok} {Q : Value → Shared → Prop} (X : (KF w).In s.heap) (hc : tok c = some v) (h : ∀ t' s', Now s s' → Q (.int v t') s') : wpAny (model PR w) A (getItem (.ref 127) (.str ⟨#[c]⟩ t)) Q E s := by
  obtain ⟨es, n, hl, hk⟩ := o_tok (w := w)
  have hm : (c, v) ∈ tokTab := by
    unfold tok at hc
    obtain ⟨l, r, h1, h2⟩ := List.lookup_eq_some_iff.mp hc
    rw [h1]; simp
  obtain ⟨tt, e⟩ := tok_tab (w := w) _ hm
  exact wpAny_getItem_of (strKind_is PR w ⟨#[c]⟩ t) (mapOf_K (prog := PR) X hl hk) (find_K hl e) (h _ _ ⟨fun _ _ e => e, rfl, id⟩)
end

def findEnd (x : List Nat) (b : Nat) : Nat → Nat → Nat
  | 0, e => e
  | f + 1, e => if e < x.length && !closes ((x.take e).drop b) then findEnd x b f (e + 1) else e
def skipTo (us : List U) (lim : Int) : Nat → Nat → Option Nat
  | 0, _ => none
  | f + 1, k => match us[k]? with
    | none => none
    | some u => if u.1 < lim then skipTo us lim f (k + 1) else some k
def mv (n w : Nat) (e : Ent) : Ent := if n % 2 = 0 then { e with lo := if e.lo < 256 then max e.lo w else w } else { e with hi := if e.hi = 0 then w else min e.hi w }
def cutP (e : Ent) : Bool := decide (e.lo < 256) && !(e.hi == 0) && decide (e.hi ≤ e.lo)
def lastSign (x : Str) : Option Nat := x.cps.toList.getLast?

def topE (st : List Ent) (pl : Int) : Ent := match st with | [] => ⟨256, 0, pl⟩ | e :: _ => ⟨e.lo, e.hi, pl⟩
/-- the search, as numbers -/
def srun (x : List Nat) (us : List U) : Nat → Nat → List Ent → List Int → Option (Nat × List Int)
  | 0, _, _, _ => none
  | n + 1, k, st, lk => match us[k]? with
    | none => none
    | some u =>
      if u.2 = ⟨#[40]⟩ then srun x us n (k + 1) (topE st u.1 :: st) lk
      else
        let tell : Nat → List Ent → List Int → Option (Nat × List Int) := fun wo st lk => match st with
          | [] => none
          | e :: st => let e' := mv st.length wo e
            if cutP e' then (match skipTo us (findEnd x e'.bg.toNat x.length (u.1.toNat + 1) - 1) (us.length + 1) (k + 1) with | none => none | some k' => srun x us n k' (e' :: st) lk)
            else srun x us n (k + 1) (e' :: st) lk
        if u.2 = ⟨#[41]⟩ then (match st with
          | [] => none
          | e :: st => let wo := if st.length % 2 = 0 then e.lo else e.hi
            if st.length = 0 then some (wo, lk) else tell wo st lk)
        else match (lastSign u.2).bind tok with
          | none => none
          | some wo => tell wo st (lk ++ [u.1])
end Mine

namespace Mine
section
variable {w : World} {A : Around} {mg mb : Str → Option Value} {E : Value → Shared → Prop} {s : Shared}
theorem unpack_items2 {a b : Nat} {t : Tok} {Q : List Value → Shared → Prop} (hh : A.handled = none) (h : ∀ t1 t2 s', Now s s' → Q [.str ⟨#[a]⟩ t1, .str ⟨#[b]⟩ t2] s') :
    wpAny (model PR w) A (unpackItems (.str ⟨#[a, b]⟩ t) 2 none) Q E s := by
  unfold unpackItems
  refine wpAny_bind ?_
  unfold notIterableAtAll
  refine wpAny_bind (wpAny_specialOf (typeIs_str s _ t) F.slot_str_iter.lookup ?_)
  refine wpAny_pure ?_
  simp only [Bool.false_eq_true, if_false]
  refine wpAny_bind (wpAny_holding (wpAny_pyIter_str fun o St hW hS => ?_))
  have W := hW A hh
  have k0 : Ext s.heap (s.heap.push o) := fun b o' e => Heap.get?_push_of_some _ e
  refine wpAny_bind (wpAny_holding ?_)
  show wpAny _ _ (pyNext _ >>= _) _ _ _
  refine wpAny_bind (W.item 0 _ _ _ (by show 0 < 2; decide) hS fun v h1 tk1 hv hS1 k1 => ?_)
  obtain ⟨c, u, hc, rfl⟩ := hv
  simp at hc
  subst hc
  refine wpAny_bind (wpAny_holding ?_)
  show wpAny _ _ (pyNext _ >>= _) _ _ _
  refine wpAny_bind (W.item 1 _ _ _ (by show 1 < 2; decide) hS1 fun v h2 tk2 hv hS2 k2 => ?_)
  obtain ⟨c, u2, hc, rfl⟩ := hv
  simp at hc
  subst hc
  refine wpAny_bind (wpAny_holding ?_)
  show wpAny _ _ (pure []) _ _ _
  refine wpAny_pure (wpAny_pure (wpAny_pure ?_))
  rw [if_neg (by simp)]
  refine wpAny_bind (wpAny_holding (W.done _ _ _ hS2 fun h3 tk3 k3 => ?_))
  simp only [Option.isSome_none, Bool.false_eq_true, if_false]
  have ne : ∀ b o', s.heap.get? b = some o' → b ∉ [s.heap.objs.size] := fun b o' e hm => by
    rw [List.mem_singleton] at hm
    rw [hm] at e
    exact absurd (Heap.lt_size e) (Nat.lt_irrefl _)
  exact wpAny_pure (h u u2 _ ⟨fun b o' e => k3 b o' (ne b o' e) (k2 b o' (ne b o' e) (k1 b o' (ne b o' e) (k0 b o' e))), rfl, id⟩)

theorem assign_str2 {env : Env} {elts : List Expr} {x1} {pos : Pos} {a b : Nat} {t : Tok} {Q : Unit → Shared → Prop} (hh : A.handled = none) (hn : (assignEach elts env).length = 2) (hstar : (assignEach elts env).findIdx? (·.1) = none)
    (h : ∀ t1 t2 s', Now s s' → wpAny (model PR w) A (assignInOrder ((assignEach elts env).map (·.2)) [.str ⟨#[a]⟩ t1, .str ⟨#[b]⟩ t2]) Q E s') :
    wpAny (model PR w) A (assign (.Tuple elts x1 pos) env (.str ⟨#[a, b]⟩ t)) Q E s := by
  rw [arm_assign_Tuple]
  refine wpAny_bind (wpAny_standAt ?_)
  unfold unpack
  rw [hn, hstar]
  exact wpAny_bind (wpAny_holding (unpack_items2 hh h))
end

/-- the names that stay -/
structure NM (x : Str) (p l u : Addr) (k : Int) (m : Str → Option Value) : Prop where
  text : ∃ t, m (Str.ofString "text") = some (.str x t)
  units : m (Str.ofString "units") = some (.ref u)
  pile : m (Str.ofString "pile") = some (.ref p)
  looked : m (Str.ofString "looked") = some (.ref l)
  k : ∃ t, m (Str.ofString "k") = some (.int k t)
def upd (m : Str → Option Value) (x : Str) (v : Value) : Str → Option Value := fun y => if y = x then some v else m y
theorem upd_same {m : Str → Option Value} {x : Str} {v : Value} : upd m x v x = some v := by unfold upd; rw [if_pos rfl]
theorem upd_ne {m : Str → Option Value} {x y : Str} {v : Value} (h : y ≠ x) : upd m x v y = m y := by unfold upd; rw [if_neg h]
theorem NM.upd {x : Str} {p l u : Addr} {k : Int} {m : Str → Option Value} (n : NM x p l u k m) {y : Str} {v : Value} (h1 : Str.ofString "text" ≠ y) (h2 : Str.ofString "units" ≠ y) (h3 : Str.ofString "pile" ≠ y) (h4 : Str.ofString "looked" ≠ y) (h5 : Str.ofString "k" ≠ y) :
    NM x p l u k (Mine.upd m y v) :=
  ⟨let ⟨t, e⟩ := n.text; ⟨t, (upd_ne h1).trans e⟩, (upd_ne h2).trans n.units, (upd_ne h3).trans n.pile, (upd_ne h4).trans n.looked, let ⟨t, e⟩ := n.k; ⟨t, (upd_ne h5).trans e⟩⟩
theorem NM.updk {x : Str} {p l u : Addr} {k k' : Int} {t : Tok} {m : Str → Option Value} (n : NM x p l u k m) : NM x p l u k' (Mine.upd m (Str.ofString "k") (.int k' t)) :=
  ⟨let ⟨t, e⟩ := n.text; ⟨t, (upd_ne (by decide)).trans e⟩, (upd_ne (by decide)).trans n.units, (upd_ne (by decide)).trans n.pile, (upd_ne (by decide)).trans n.looked, ⟨t, upd_same⟩⟩

section
variable {w : World} {A : Around} {mg mb : Str → Option Value} {E : Value → Shared → Prop} {s s₀ : Shared} {B H : Heap} {L p dx l u : Addr} {us : List U} {m : Str → Option Value} {st : List Ent} {lk : List Int} {cd : Value}
abbrev eS (L : Addr) (cd : Value) : Env := envOf (Str.ofString "_law_searched") (fnScope 64) L 157 cd
theorem ss_st {Q : Unit → Shared → Prop} {x : Str} {v : Value} (T : Stat w mg mb B H L p dx l u us) (σ : SS H s₀ L p dx l m st lk s) (h : ∀ s', SS H s₀ L p dx l (upd m x v) st lk s' → Q () s')
    (hl : (envOf (Str.ofString "_law_searched") (fnScope 64) L 157 cd).kindOf x = some .local := by rfl) : wpAny (model PR w) A (storeName (eS L cd) x v) Q E s := ss_store T σ h hl

/-- ISTERMINAL(ord(v)) -/
theorem ev_ister {c : Nat} {t : Tok} {v : Str} {p1 p2 p3 p4 p5 : Pos} {Q : Value → Shared → Prop} (T : Stat w mg mb B H L p dx l u us) (σ : SS H s₀ L p dx l m st lk s) (room : Room A 4) (hv : m v = some (.str ⟨#[c]⟩ t))
    (h : ∀ s', SS H s₀ L p dx l m st lk s' → Q (.bool (decide (c < 256))) s') (hl : (eS L cd).kindOf v = some .local := by rfl) (hd : (v == ("__debug__" : Str)) = false := by decide) :
    wpAny (model PR w) A (eval (.Call (.Name (Str.ofString "ISTERMINAL") p1) [.Call (.Name (Str.ofString "ord") p2) [.Name v p3] [] p4] [] p5) (eS L cd)) Q E s := by
  refine ev_call (σ.gx T).gc t_ister f_ister (spliced_more (wpAny_Call_NameR (ev_bname (σ.gx T).gc b_ord (callWith_builtin1 (ss_name σ hv (P.ord_of_char (spliced_none ⟨fun _ _ e => e, ?_⟩)) hl hd)))))
  have σ' := σ.tk (tk := s.toks + 1)
  refine ister_ok (s := { s with toks := s.toks + 1 }) (σ'.gx T).gc room.lt fun s' n => ?_
  have e : (decide ((c : Int) < 256)) = decide (c < 256) := decide_eq_decide.mpr (by omega)
  rw [e]
  exact h s' (σ'.now n)
theorem ev_iseof {c : Nat} {t : Tok} {v : Str} {p1 p2 p3 p4 p5 : Pos} {Q : Value → Shared → Prop} (T : Stat w mg mb B H L p dx l u us) (σ : SS H s₀ L p dx l m st lk s) (room : Room A 4) (hv : m v = some (.str ⟨#[c]⟩ t))
    (h : ∀ s', SS H s₀ L p dx l m st lk s' → Q (.bool (c == 0)) s') (hl : (eS L cd).kindOf v = some .local := by rfl) (hd : (v == ("__debug__" : Str)) = false := by decide) :
    wpAny (model PR w) A (eval (.Call (.Name (Str.ofString "ISEOF") p1) [.Call (.Name (Str.ofString "ord") p2) [.Name v p3] [] p4] [] p5) (eS L cd)) Q E s := by
  refine ev_call (σ.gx T).gc t_iseof f_iseof (spliced_more (wpAny_Call_NameR (ev_bname (σ.gx T).gc b_ord (callWith_builtin1 (ss_name σ hv (P.ord_of_char (spliced_none ⟨fun _ _ e => e, ?_⟩)) hl hd)))))
  have σ' := σ.tk (tk := s.toks + 1)
  refine iseof_ok (s := { s with toks := s.toks + 1 }) (σ'.gx T).gc room.lt fun s' n => ?_
  have e : (((c : Int) == 0) : Bool) = (c == 0) := by
    rw [Bool.eq_iff_iff]; simp
  rw [e]
  exact h s' (σ'.now n)
end
end Mine

namespace Mine
def wBody : List Stmt := match (fnBody 64)[4]? with | some (Stmt.While (body := b) ..) => b | _ => []
section
variable {w : World} {A : Around} {mg mb : Str → Option Value} {E : Value → Shared → Prop} {s s₀ : Shared} {B H : Heap} {L p dx l u : Addr} {us : List U} {m : Str → Option Value} {st : List Ent} {lk : List Int} {cd : Value}

theorem fmod2 (n : Nat) : (((n : Int).fmod 2 == 0) : Bool) = decide (n % 2 = 0) := by
  have : (n : Int).fmod 2 = ((n % 2 : Nat) : Int) := by
    rw [Int.fmod_eq_emod_of_nonneg _ (by decide)]; omega
  rw [this, Bool.eq_iff_iff]
  simp
  omega

theorem tell1 {x : Str} {k : Int} {e : Ent} {wo : Nat} {tw tp : Tok} {pl : Int} {Q : Flow → Shared → Prop} (T : Stat w mg mb B H L p dx l u us) (σ : SS H s₀ L p dx l m (e :: st) lk s) (room : Room A 4) (n : NM x p l u k m) (hz : st.length ≤ 800)
    (hw : m (Str.ofString "worth") = some (.str ⟨#[wo]⟩ tw)) (hp : m (Str.ofString "place") = some (.int pl tp))
    (h : ∀ s' m', SS H s₀ L p dx l m' (mv st.length wo e :: st) lk s' → NM x p l u k m' → (∃ t, m' (Str.ofString "low") = some (.str ⟨#[(mv st.length wo e).lo]⟩ t)) → (∃ t, m' (Str.ofString "high") = some (.str ⟨#[(mv st.length wo e).hi]⟩ t)) →
      (∃ t, m' (Str.ofString "begin") = some (.str (Str.ofString (toString (mv st.length wo e).bg)) t)) → m' (Str.ofString "place") = some (.int pl tp) → wpAny (model PR w) A (execs (wBody.drop 8) (eS L cd)) Q E s') :
    wpAny (model PR w) A (execs (wBody.drop 4) (eS L cd)) Q E s := by
  have hh := room.hh
  -- bounds, begin = pile.pop()
  refine wpAny_execs_cons (Assign_Tuple (MethodCall_ (ss_name σ n.pile (ss_pop T σ room (by omega) fun y s₁ σ₁ hy => ?_))))
  obtain ⟨ta, t1, t2, rfl, hnx, hta⟩ := hy
  refine wpAny_assign_Tuple hh ⟨_, hta, rfl, _, rfl⟩ rfl rfl fun h₂ hx₂ => ?_
  have σ₂ := σ₁.ext (h' := h₂) (tk := s₁.toks) fun b o q => hx₂ b o (Nat.ne_of_lt (Heap.lt_size q)) q
  show wpAny _ _ (do holding [_] (assign (.Name (Str.ofString "bounds") _) _ (.str ⟨#[e.lo, e.hi]⟩ t1)); do holding [] (assign (.Name (Str.ofString "begin") _) _ (.str (Str.ofString (toString e.bg)) t2)); pure ()) _ _ _
  refine wpAny_bind (wpAny_holding (wpAny_assign_Name (ss_st T σ₂ fun s₃ σ₃ => ?_)))
  refine wpAny_bind (wpAny_holding (wpAny_assign_Name (ss_st T σ₃ fun s₄ σ₄ => wpAny_pure ?_)))
  -- low, high = bounds
  refine wpAny_execs_cons (Assign_Tuple (ss_name σ₄ (v := .str ⟨#[e.lo, e.hi]⟩ t1) (by rw [upd_ne (by decide), upd_same]) (assign_str2 hh rfl rfl fun t3 t4 s₅ n₅ => ?_)))
  have σ₅ := σ₄.now n₅
  show wpAny _ _ (do holding [_] (assign (.Name (Str.ofString "low") _) _ (.str ⟨#[e.lo]⟩ t3)); do holding [] (assign (.Name (Str.ofString "high") _) _ (.str ⟨#[e.hi]⟩ t4)); pure ()) _ _ _
  refine wpAny_bind (wpAny_holding (wpAny_assign_Name (ss_st T σ₅ fun s₆ σ₆ => ?_)))
  refine wpAny_bind (wpAny_holding (wpAny_assign_Name (ss_st T σ₆ fun s₇ σ₇ => wpAny_pure ?_)))
  have n₇ : NM x p l u k (upd (upd (upd (upd m (Str.ofString "bounds") (.str ⟨#[e.lo, e.hi]⟩ t1)) (Str.ofString "begin") (.str (Str.ofString (toString e.bg)) t2)) (Str.ofString "low") (.str ⟨#[e.lo]⟩ t3)) (Str.ofString "high") (.str ⟨#[e.hi]⟩ t4)) := 
    (((n.upd (by decide) (by decide) (by decide) (by decide) (by decide)).upd (by decide) (by decide) (by decide) (by decide) (by decide)).upd (by decide) (by decide) (by decide) (by decide) (by decide)).upd (by decide) (by decide) (by decide) (by decide) (by decide)
  have a1 : (upd (upd (upd (upd m (Str.ofString "bounds") (.str ⟨#[e.lo, e.hi]⟩ t1)) (Str.ofString "begin") (.str (Str.ofString (toString e.bg)) t2)) (Str.ofString "low") (.str ⟨#[e.lo]⟩ t3)) (Str.ofString "high") (.str ⟨#[e.hi]⟩ t4)) (Str.ofString "low") = some (.str ⟨#[e.lo]⟩ t3) := by rw [upd_ne (by decide), upd_same]
  have a2 : (upd (upd (upd (upd m (Str.ofString "bounds") (.str ⟨#[e.lo, e.hi]⟩ t1)) (Str.ofString "begin") (.str (Str.ofString (toString e.bg)) t2)) (Str.ofString "low") (.str ⟨#[e.lo]⟩ t3)) (Str.ofString "high") (.str ⟨#[e.hi]⟩ t4)) (Str.ofString "high") = some (.str ⟨#[e.hi]⟩ t4) := upd_same
  have a3 : (upd (upd (upd (upd m (Str.ofString "bounds") (.str ⟨#[e.lo, e.hi]⟩ t1)) (Str.ofString "begin") (.str (Str.ofString (toString e.bg)) t2)) (Str.ofString "low") (.str ⟨#[e.lo]⟩ t3)) (Str.ofString "high") (.str ⟨#[e.hi]⟩ t4)) (Str.ofString "begin") = some (.str (Str.ofString (toString e.bg)) t2) := by rw [upd_ne (by decide), upd_ne (by decide), upd_same]
  have a4 : (upd (upd (upd (upd m (Str.ofString "bounds") (.str ⟨#[e.lo, e.hi]⟩ t1)) (Str.ofString "begin") (.str (Str.ofString (toString e.bg)) t2)) (Str.ofString "low") (.str ⟨#[e.lo]⟩ t3)) (Str.ofString "high") (.str ⟨#[e.hi]⟩ t4)) (Str.ofString "place") = some (.int pl tp) := by rw [upd_ne (by decide), upd_ne (by decide), upd_ne (by decide), upd_ne (by decide), hp]
  have a5 : (upd (upd (upd (upd m (Str.ofString "bounds") (.str ⟨#[e.lo, e.hi]⟩ t1)) (Str.ofString "begin") (.str (Str.ofString (toString e.bg)) t2)) (Str.ofString "low") (.str ⟨#[e.lo]⟩ t3)) (Str.ofString "high") (.str ⟨#[e.hi]⟩ t4)) (Str.ofString "worth") = some (.str ⟨#[wo]⟩ tw) := by rw [upd_ne (by decide), upd_ne (by decide), upd_ne (by decide), upd_ne (by decide), hw]
  generalize (upd (upd (upd (upd m (Str.ofString "bounds") (.str ⟨#[e.lo, e.hi]⟩ t1)) (Str.ofString "begin") (.str (Str.ofString (toString e.bg)) t2)) (Str.ofString "low") (.str ⟨#[e.lo]⟩ t3)) (Str.ofString "high") (.str ⟨#[e.hi]⟩ t4)) = M at σ₇ n₇ a1 a2 a3 a4 a5
  clear σ₆ σ₅ σ₄ σ₃ σ₂ σ₁ σ n hw hp hnx hta
  -- the push, once both bounds are there
  have push : ∀ (M' : Str → Option Value) (e' : Ent) (s₈ : Shared) (t5 t6 : Tok), e' = mv st.length wo e → SS H s₀ L p dx l M' st lk s₈ → NM x p l u k M' → M' (Str.ofString "low") = some (.str ⟨#[e'.lo]⟩ t5) → M' (Str.ofString "high") = some (.str ⟨#[e'.hi]⟩ t6) →
      M' (Str.ofString "begin") = some (.str (Str.ofString (toString e'.bg)) t2) → M' (Str.ofString "place") = some (.int pl tp) → wpAny (model PR w) A (execs (wBody.drop 7) (eS L cd)) Q E s₈ := by
    intro M' e' s₈ t5 t6 he σ₈ n₈ b1 b2 b3 b4
    obtain ⟨ri, ha, hr⟩ := σ₈.accAt T
    obtain ⟨c, hs, tk, v, nn, h1, h2, h3⟩ := ha
    obtain ⟨hh8, gg, dd, tt, oo⟩ := s₈
    refine wpAny_execs_cons (wpAny_Expr_any (MethodCall_ (ss_name σ₈ n₈.pile (gm_acc (σ₈.gx T).kx h1 h2 gl_push k_push (looks_fn (σ₈.gx T).kx o_push) not_fn ?_))))
    refine callWith_meth (h₀ := B) rfl (T.G.kx _ _ o_push) (spliced_more (wpAny_BinOp (ss_name σ₈ b1 (ss_name σ₈ b2 (add_str (fun t7 tk7 => spliced_more (ss_name σ₈.tk b3 (spliced_none ⟨σ₈.tk.base T, ?_⟩))) (show 2 ≤ sizeLine from Nat.le_of_ble_eq_true rfl))))))
    refine ss_push (e := e') (t1 := t7) (t2 := t2) T σ₈.tk room (by omega) fun s₉ σ₉ => ?_
    rw [he] at σ₉ b1 b2 b3
    exact h s₉ M' σ₉ n₈ ⟨_, b1⟩ ⟨_, b2⟩ ⟨_, b3⟩ b4
  refine wpAny_execs_cons (wpAny_If (wpAny_isTrue_Compare1 (wpAny_BinOp (MethodCall_ (ss_name σ₇ n₇.pile (ss_pc T σ₇ room fun t8 s₈ σ₈ => wpAny_Constant_int (mod_int' (by decide) (wpAny_Constant_int (eq_int (wpAny_truthy_bool ?_))))))))))
  rw [fmod2]
  by_cases hev : st.length % 2 = 0
  · rw [decide_eq_true hev]
    simp only [if_true]
    refine wpAny_execs_cons (wpAny_Assign_Name (wpAny_IfExp (wpAny_isTrue_value (ev_ister T σ₈.tk.tk.tk room a1 fun s₉ σ₉ => wpAny_truthy_bool ?_))))
    by_cases hlo : e.lo < 256
    · rw [decide_eq_true hlo]
      simp only [if_true]
      refine wpAny_Call_NameR (ev_bname (σ₉.gx T).gc b_max (Calls.callWith_builtin rfl (Calls.evalArgs_plain (spliced_more (ss_name σ₉ a1 (spliced_more (ss_name σ₉ a5 (spliced_none ?_))))))))
      refine max2 hh fun t9 s₁₀ n₁₀ => ss_st T (σ₉.now n₁₀) fun s₁₁ σ₁₁ => ?_
      refine wpAny_execs_nil ?_
      refine push _ { e with lo := max e.lo wo } _ t9 t4 (by unfold mv; rw [if_pos hev, if_pos hlo]) σ₁₁ (n₇.upd (by decide) (by decide) (by decide) (by decide) (by decide)) upd_same ?_ ?_ ?_ 
      all_goals first | exact (upd_ne (by decide)).trans a2 | exact (upd_ne (by decide)).trans a3 | exact (upd_ne (by decide)).trans a4
    · rw [decide_eq_false hlo]
      simp only [Bool.false_eq_true, if_false]
      refine ss_name σ₉ a5 (ss_st T σ₉ fun s₁₁ σ₁₁ => ?_)
      refine wpAny_execs_nil ?_
      refine push _ { e with lo := wo } _ tw t4 (by unfold mv; rw [if_pos hev, if_neg hlo]) σ₁₁ (n₇.upd (by decide) (by decide) (by decide) (by decide) (by decide)) upd_same ?_ ?_ ?_ 
      all_goals first | exact (upd_ne (by decide)).trans a2 | exact (upd_ne (by decide)).trans a3 | exact (upd_ne (by decide)).trans a4
  · rw [decide_eq_false hev]
    simp only [Bool.false_eq_true, if_false]
    refine wpAny_execs_cons (wpAny_Assign_Name (wpAny_IfExp (wpAny_isTrue_value (ev_iseof T σ₈.tk.tk.tk room a2 fun s₉ σ₉ => wpAny_truthy_bool ?_))))
    by_cases hhi : e.hi = 0
    · rw [show (e.hi == 0) = true by simp [hhi]]
      simp only [if_true]
      refine ss_name σ₉ a5 (ss_st T σ₉ fun s₁₁ σ₁₁ => ?_)
      refine wpAny_execs_nil ?_
      refine push _ { e with hi := wo } _ t3 tw (by unfold mv; rw [if_neg hev, if_pos hhi]) σ₁₁ (n₇.upd (by decide) (by decide) (by decide) (by decide) (by decide)) ?_ upd_same ?_ ?_ 
      all_goals first | exact (upd_ne (by decide)).trans a1 | exact (upd_ne (by decide)).trans a3 | exact (upd_ne (by decide)).trans a4
    · rw [show (e.hi == 0) = false by simp [hhi]]
      simp only [Bool.false_eq_true, if_false]
      refine wpAny_Call_NameR (ev_bname (σ₉.gx T).gc b_min (Calls.callWith_builtin rfl (Calls.evalArgs_plain (spliced_more (ss_name σ₉ a2 (spliced_more (ss_name σ₉ a5 (spliced_none ?_))))))))
      refine min2 hh fun t9 s₁₀ n₁₀ => ss_st T (σ₉.now n₁₀) fun s₁₁ σ₁₁ => ?_
      refine wpAny_execs_nil ?_
      refine push _ { e with hi := min e.hi wo } _ t3 t9 (by unfold mv; rw [if_neg hev, if_neg hhi]) σ₁₁ (n₇.upd (by decide) (by decide) (by decide) (by decide) (by decide)) ?_ upd_same ?_ ?_ 
      all_goals first | exact (upd_ne (by decide)).trans a1 | exact (upd_ne (by decide)).trans a3 | exact (upd_ne (by decide)).trans a4
end
end Mine

namespace Mine
section
variable {w : World} {A : Around} {mg mb : Str → Option Value} {E : Value → Shared → Prop} {s s₀ : Shared} {B H : Heap} {L p dx l u : Addr} {us : List U} {m : Str → Option Value} {st : List Ent} {lk : List Int} {cd : Value}

/-- units[k] -/
theorem ev_unit {x : Str} {k : Nat} {un : U} {p1 p2 p3 : Pos} {Q : Value → Shared → Prop} (T : Stat w mg mb B H L p dx l u us) (σ : SS H s₀ L p dx l m st lk s) (n : NM x p l u (k : Int) m) (hu : us[k]? = some un) (hk : k < 1000)
    (h : ∀ a t1 t2, s.heap.get? a = some { cls := .type "tuple", data := .seq #[.int un.1 t1, .str un.2 t2] } → Q (.ref a) s) :
    wpAny (model PR w) A (eval (.Subscript (.Name (Str.ofString "units") p1) (.Name (Str.ofString "k") p2) p3) (eS L cd)) Q E s := by
  obtain ⟨vs, c, h1, h2⟩ := T.uo
  obtain ⟨v, hv, a, t1, t2, rfl, hnx, hta⟩ := h2.at hu
  obtain ⟨tk, hkm⟩ := n.k
  have hl := σ.kept _ _ T.uX h1
  have ha := σ.kept _ _ hnx hta
  refine sub_any (ss_name σ n.units (ss_name σ hkm ⟨brk_list hl rfl, ?_⟩))
  refine wpAny_getItem_list ⟨_, hl, rfl, _, rfl⟩ (Int.natCast_nonneg k) (by omega) (by simpa using hv) ?_
  exact h a t1 t2 ha

theorem ev_int {x : Str} {i : Int} {k : Nat} {pos : Pos} {Q : Value → Shared → Prop} (σ : SS H s₀ L p dx l m st lk s) (h : ∀ t, SS H s₀ L p dx l m st lk { s with toks := s.toks + 1 } → Q (.int i t) { s with toks := s.toks + 1 }) :
    wpAny (model PR w) A (eval (.Constant (.int i) k pos) (eS L cd)) Q E s := wpAny_Constant_int (h _ σ.tk)

theorem slice_mid (x : Str) {b e : Nat} (h1 : b ≤ e) (h2 : e ≤ x.cps.size) : (Txt.slice x (some (b : Int)) (some (e : Int))).cps.toList = (x.cps.toList.take e).drop b := by
  have h := PyProof.Rows.slice_closes (x := x) (i := (b : Int)) (j := (e : Int)) ⟨by omega, by omega, by simp; omega⟩
  rw [eq_of_beq h]
  show List.take _ (List.drop b x.cps.toList) = _
  rw [List.drop_take]
  congr 1
  omega

theorem ev_slice {le ue : Expr} {np sp pos : Pos} {x : Str} {tx : Tok} {lo hi : Int} {Q : Value → Shared → Prop} (hsz : x.length ≤ sizeLine) (σ : SS H s₀ L p dx l m st lk s) (hxt : m (Str.ofString "text") = some (.str x tx))
    (hl : ∀ Q' : Value → Shared → Prop, (∀ t, Q' (.int lo t) { s with toks := s.toks + 1 }) → wpAny (model PR w) A (eval le (eS L cd)) Q' E s)
    (hu : ∀ Q' : Value → Shared → Prop, (∀ t, Q' (.int hi t) { s with toks := s.toks + 1 }) → wpAny (model PR w) A (eval ue (eS L cd)) Q' E { s with toks := s.toks + 1 })
    (h : ∀ t s', SS H s₀ L p dx l m st lk s' → Ext s.heap s'.heap → Q (.str (Txt.slice x (some lo) (some hi)) t) s') :
    wpAny (model PR w) A (eval (.Subscript (.Name (Str.ofString "text") np) (.Slice (some le) (some ue) none sp) pos) (eS L cd)) Q E s := by
  refine wpAny_Subscript_str_slice (ss_name σ hxt (wpAny_evalPart_some (hl _ fun t1 => wpAny_evalPart_some (hu _ fun t2 => ?_))))
  refine ⟨x, tx, some (lo, t1), some (hi, t2), rfl, rfl, rfl, ?_⟩
  refine post_val_or_str ⟨Nat.le_trans (Txt.slice_le x _ _) hsz, fun t' k₇ => h _ _ (σ.ext (h' := s.heap.push { cls := .type "slice", data := .fields #[partValue (some (lo, t1)), partValue (some (hi, t2)), .none] }) (tk := k₇) fun b o q => Heap.get?_push_of_some _ q) fun b o q => Heap.get?_push_of_some _ q⟩

def wIf : Stmt := (wBody[8]?).getD default
theorem tell2 {x : Str} {k pl : Nat} {e : Ent} {tp : Tok} {Q : Flow → Shared → Prop} (T : Stat w mg mb B H L p dx l u us) (σ : SS H s₀ L p dx l m st lk s) (room : Room A 5) (n : NM x p l u (k : Int) m)
    (hx34 : 34 ∉ x.cps.toList) (hxz : x.cps.size ≤ 800) (huz : us.length ≤ 900)
    (hlo : ∃ t, m (Str.ofString "low") = some (.str ⟨#[e.lo]⟩ t)) (hhi : ∃ t, m (Str.ofString "high") = some (.str ⟨#[e.hi]⟩ t)) (hbg : ∃ t, m (Str.ofString "begin") = some (.str (Str.ofString (toString e.bg)) t)) (hp : m (Str.ofString "place") = some (.int pl tp))
    (hb0 : 0 ≤ e.bg) (hb1 : e.bg ≤ pl) (hpl : pl < x.cps.size)
    (h0 : cutP e = false → ∀ s' , SS H s₀ L p dx l m st lk s' → Q .next s')
    (h1 : cutP e = true → ∃ k', skipTo us (findEnd x.cps.toList e.bg.toNat x.cps.toList.length (pl + 1) - 1) (us.length + 1) k = some k' ∧ ∀ s' m', SS H s₀ L p dx l m' st lk s' → NM x p l u (k' : Int) m' → Q .next s') :
    wpAny (model PR w) A (execs (wBody.drop 8) (eS L cd)) Q E s := by
  obtain ⟨tl, hlo⟩ := hlo
  obtain ⟨th, hhi⟩ := hhi
  obtain ⟨tb, hbg⟩ := hbg
  have hcut : cutP e = (decide (e.lo < 256) && !(e.hi == 0) && decide (e.hi ≤ e.lo)) := rfl
  refine wpAny_execs_cons (wpAny_If (wpAny_isTrue_BoolOp (wpAny_allTrue_And_cons (wpAny_isTrue_value (ev_ister T σ (room.mono (by omega)) hlo fun s₁ σ₁ => wpAny_truthy_bool ?_)))))
  by_cases c1 : e.lo < 256
  case neg =>
    rw [decide_eq_false c1] at hcut ⊢
    simp only [Bool.false_eq_true, if_false]
    exact wpAny_execs_nil (wpAny_execs_nil (h0 (by rw [hcut]; rfl) _ σ₁))
  rw [decide_eq_true c1] at hcut ⊢
  simp only [if_true]
  refine wpAny_allTrue_And_cons (wpAny_isTrue_Not (wpAny_isTrue_value (ev_iseof T σ₁ (room.mono (by omega)) hhi fun s₂ σ₂ => wpAny_truthy_bool ?_)))
  by_cases c2 : e.hi = 0
  case pos =>
    have z : (e.hi == 0) = true := by simp [c2]
    rw [z] at hcut ⊢
    simp only [Bool.not_true, Bool.false_eq_true, if_false]
    exact wpAny_execs_nil (wpAny_execs_nil (h0 (by rw [hcut]; rfl) _ σ₂))
  have z : (e.hi == 0) = false := by simp [c2]
  rw [z] at hcut ⊢
  simp only [Bool.not_false, if_true]
  refine wpAny_allTrue_And_cons (wpAny_isTrue_Compare1 (ss_name σ₂ hlo (ss_name σ₂ hhi (P.ge_str (wpAny_truthy_bool ?_)))))
  rw [show (decide ((⟨#[e.lo]⟩ : Str).cps.toList < (⟨#[e.hi]⟩ : Str).cps.toList)) = decide (e.lo < e.hi) from decide_eq_decide.mpr (lt_one _ _)]
  by_cases c3 : e.lo < e.hi
  case pos =>
    rw [decide_eq_true c3]
    simp only [Bool.not_true, Bool.false_eq_true, if_false]
    exact wpAny_execs_nil (wpAny_execs_nil (h0 (by rw [hcut, decide_eq_false (by omega)]; rfl) _ σ₂))
  rw [decide_eq_false c3]
  simp only [Bool.not_false, if_true]
  refine wpAny_allTrue_And_nil ?_
  simp only [if_true]
  obtain ⟨k', hk', hfin⟩ := h1 (by rw [hcut, decide_eq_true (by omega)]; rfl)
  clear h0 h1 hcut
  -- end = place + 1
  refine wpAny_execs_cons (wpAny_Assign_Name (wpAny_BinOp (ss_name σ₂ hp (wpAny_Constant_int (add_int (ss_st T σ₂.tk.tk fun s₃ σ₃ => ?_))))))
  have n₃ := n.upd (y := Str.ofString "end") (v := .int ((pl : Int) + 1) (s₂.toks + 1)) (by decide) (by decide) (by decide) (by decide) (by decide)
  have hb₃ := (upd_ne (m := m) (x := Str.ofString "end") (y := Str.ofString "begin") (v := .int ((pl : Int) + 1) (s₂.toks + 1)) (by decide)).trans hbg
  have he₃ := upd_same (m := m) (x := Str.ofString "end") (v := .int ((pl : Int) + 1) (s₂.toks + 1))
  generalize hM : upd m (Str.ofString "end") (.int ((pl : Int) + 1) (s₂.toks + 1)) = M at σ₃ n₃ hb₃ he₃
  clear hM σ₂ σ₁ σ n hlo hhi hbg hp z c1 c2 c3
  -- while end < len(text) and not _law_closes(text[int(begin):end])
  refine wpAny_execs_cons (wpAny_While ?_)
  refine codeAny_whileLoop (fun f s' => ∃ (en : Nat) (t : Tok) (M' : Str → Option Value), en ≤ x.cps.size ∧ e.bg ≤ en ∧ SS H s₀ L p dx l M' st lk s' ∧ NM x p l u (k : Int) M' ∧ M' (Str.ofString "begin") = some (.str (Str.ofString (toString e.bg)) tb) ∧ M' (Str.ofString "end") = some (.int (en : Int) t) ∧
      f ≥ x.cps.size - en ∧ findEnd x.cps.toList e.bg.toNat f en = findEnd x.cps.toList e.bg.toNat x.cps.toList.length (pl + 1)) ?_ x.cps.toList.length ⟨pl + 1, s₂.toks + 1, M, by omega, by omega, σ₃, n₃, hb₃, he₃, by simp, rfl⟩
  clear σ₃ n₃ hb₃ he₃
  rintro f s₄ ⟨en, te, M', hen, hben, σ₄, n₄, hb₄, he₄, hf, hfe⟩
  obtain ⟨tx, hxt⟩ := n₄.text
  refine wpAny_isTrue_BoolOp (wpAny_allTrue_And_cons (wpAny_isTrue_Compare1 (ss_name σ₄ he₄ (wpAny_Call_NameR (ev_bname (σ₄.gx T).gc b_len (callWith_builtin1 (ss_name σ₄ hxt (P.len_str ?_ (lt_int (wpAny_truthy_bool ?_))))))))))
  · have : x.length = x.cps.size := rfl
    omega
  have cl : (decide ((en : Int) < (x.length : Int))) = decide (en < x.cps.toList.length) := decide_eq_decide.mpr (by have : x.length = x.cps.size := rfl; simp; omega)
  rw [cl]
  have leave : ∀ s₅ : Shared, SS H s₀ L p dx l M' st lk s₅ → findEnd x.cps.toList e.bg.toNat f en = en →
      wpAny (model PR w) A (execs ((match (wBody[8]?) with | some (Stmt.If (body := b) ..) => b | _ => []).drop 2) (eS L cd)) (fun f s' => match f with | .next => wpAny (model PR w) A (execs [] (eS L cd)) Q E s' | f => Q f s') E s₅ := by
    intro s₅ σ₅ hfe'
    have hlim : findEnd x.cps.toList e.bg.toNat x.cps.toList.length (pl + 1) = en := hfe.symm.trans hfe'
    rw [hlim] at hk'
    refine wpAny_execs_cons (wpAny_While ?_)
    refine codeAny_whileLoop (fun g s' => ∃ (kk : Nat) (M' : Str → Option Value), SS H s₀ L p dx l M' st lk s' ∧ NM x p l u (kk : Int) M' ∧ (∃ t, M' (Str.ofString "end") = some (.int (en : Int) t)) ∧ skipTo us ((en : Int) - 1) g kk = some k') ?_ (us.length + 1) ⟨k, M', σ₅, n₄, ⟨te, he₄⟩, hk'⟩
    rintro g s₆ ⟨kk, M6, σ₆, n₆, ⟨t6, he₆⟩, hsk⟩
    cases g with
    | zero => cases hsk
    | succ g =>
      rw [skipTo] at hsk
      cases hun : us[kk]? with
      | none => rw [hun] at hsk; cases hsk
      | some un =>
        rw [hun] at hsk
        dsimp only at hsk
        have hkk : kk < us.length := by
          rcases Nat.lt_or_ge kk us.length with z | z
          · exact z
          · rw [List.getElem?_eq_none z] at hun; cases hun
        refine wpAny_isTrue_Compare1 (sub_any (ev_unit T σ₆ n₆ hun (by omega) fun a t1 t2 hta => wpAny_Constant_int ⟨brk_tuple (s := { s₆ with toks := s₆.toks + 1 }) hta rfl, ?_⟩))
        refine getItem_tuple (s := { s₆ with toks := s₆.toks + 1 }) (j := 0) ⟨_, hta, rfl, _, rfl⟩ (by decide) (by decide) (by rfl) rfl ?_
        refine wpAny_BinOp (ss_name σ₆.tk he₆ (wpAny_Constant_int (sub_int (lt_int (wpAny_truthy_bool ?_)))))
        by_cases hlt : un.1 < (en : Int) - 1
        · rw [if_pos hlt] at hsk
          rw [decide_eq_true hlt]
          simp only [if_true]
          obtain ⟨tk, hkm⟩ := n₆.k
          refine wpAny_execs_cons (wpAny_AugAssign_Name (wpAny_loadName_local rfl rfl σ₆.tk.tk.tk.ns hkm (wpAny_Constant_int (iadd_int (ss_st T σ₆.tk.tk.tk.tk.tk fun s₇ σ₇ => ?_)))))
          refine wpAny_execs_nil ?_
          refine ⟨g, Nat.lt_succ_self _, kk + 1, _, σ₇, ?_, ⟨t6, (upd_ne (by decide)).trans he₆⟩, hsk⟩
          exact n₆.updk
        · rw [if_neg hlt] at hsk
          cases hsk
          rw [decide_eq_false hlt]
          simp only [Bool.false_eq_true, if_false]
          exact wpAny_execs_nil (wpAny_execs_nil (wpAny_execs_nil (hfin _ _ σ₆.tk.tk.tk n₆)))
  by_cases hlt : en < x.cps.toList.length
  case neg =>
    rw [decide_eq_false hlt]
    simp only [Bool.false_eq_true, if_false]
    refine wpAny_execs_nil ?_
    refine leave _ σ₄.tk ?_
    cases f with
    | zero => rfl
    | succ f => rw [findEnd, decide_eq_false hlt]; rfl
  rw [decide_eq_true hlt]
  simp only [if_true]
  have hlt' : en < x.cps.size := by simpa using hlt
  have hsz : x.length ≤ sizeLine := Nat.le_trans (show x.length ≤ 800 from hxz) (Nat.le_of_ble_eq_true rfl)
  obtain ⟨b, hbe⟩ := Int.eq_ofNat_of_zero_le hb0
  have hsl : (Txt.slice x (some e.bg) (some (en : Int))).cps.toList = (x.cps.toList.take en).drop e.bg.toNat := by
    rw [hbe]
    exact slice_mid x (by omega) hen
  obtain ⟨ei, hei⟩ : ∃ ei : Int, ei = (en : Int) := ⟨_, rfl⟩
  rw [← hei] at hsl
  refine wpAny_allTrue_And_cons (wpAny_isTrue_Not (wpAny_isTrue_value (ev_call (σ₄.tk.gx T).gc t_closes f_closes (spliced_more (ev_slice (lo := e.bg) (hi := ei) hsz σ₄.tk hxt
    (fun Q' k => wpAny_Call_NameR (ev_bname (σ₄.tk.gx T).gc b_int (callWith_type1 (ss_name σ₄.tk hb₄ (KIN.call_num hb0 (by omega) (k _))))))
    (fun Q' k => ss_name σ₄.tk he₄ (by have := k te; rw [hei] at this; exact this)) fun t' s₈ σ₈ e₈ => spliced_none ⟨e₈, ?_⟩)))))
  refine closes_ok (σ₈.gx T).gc (room.mono (by omega)) (by rw [hsl]; exact fun z => hx34 (List.mem_of_mem_take (List.mem_of_mem_drop z))) (Nat.le_trans (Txt.slice_le x _ _) (show x.length ≤ 900 from Nat.le_trans hxz (by decide))) fun s₉ n₉ => wpAny_truthy_bool ?_
  have σ₉ := σ₈.now n₉
  rw [hsl]
  cases f with
  | zero => simp at hf; omega
  | succ f =>
    rw [findEnd] at hfe
    cases hc : closes ((x.cps.toList.take en).drop e.bg.toNat) with
    | true =>
      simp only [Bool.not_true, Bool.false_eq_true, if_false]
      refine wpAny_execs_nil ?_
      refine leave _ σ₉ ?_
      rw [findEnd, hc]
      simp
    | false =>
      rw [hc, decide_eq_true hlt] at hfe
      simp only [Bool.not_false, Bool.and_self, if_true] at hfe
      simp only [Bool.not_false, if_true]
      refine wpAny_allTrue_And_nil ?_
      simp only [if_true]
      refine wpAny_execs_cons (wpAny_AugAssign_Name (wpAny_loadName_local rfl rfl σ₉.ns he₄ (wpAny_Constant_int (iadd_int (ss_st T σ₉.tk.tk fun s₇ σ₇ => ?_)))))
      refine wpAny_execs_nil ?_
      refine ⟨f, Nat.lt_succ_self _, en + 1, _, _, by omega, by omega, σ₇, n₄.upd (by decide) (by decide) (by decide) (by decide) (by decide), (upd_ne (by decide)).trans hb₄, upd_same, by omega, hfe⟩
end
end Mine

namespace Mine
section
variable {w : World} {A : Around} {B : Heap} {mg mb : Str → Option Value} {E : Value → Shared → Prop} {s : Shared} {R : Result → Shared → Prop}
abbrev lstObj (its : Array Value) (c : Nat) : Obj := { cls := .type "list", dict := none, data := .seq its c, slots := #[] }

theorem ext_loop (hh : A.handled = none) (hroom : A.depth < recursionLimit) (G : GC mg mb B) {S a g : Addr} {res : Value} {F₀ : List Addr} {s₀ : Shared} {all : List U} (hSa : S ≠ a) (hSB : B.get? S = none) (hz : all.length ≤ 2000)
    (hR : ∀ s' acc c, s'.heap.get? S = some (lstObj acc c) → All2 (IsUnit s'.heap) acc.toList all → (∀ b o, b ≠ S → b ∉ F₀ → s₀.heap.get? b = some o → s'.heap.get? b = some o) → s'.os = s₀.os → (AllBare s₀.gens → AllBare s'.gens) → R (.ok (.ret res)) s') :
    ∀ (us done : List U) (F : List Addr) (s : Shared) (acc : Array Value) (c : Nat), all = done ++ us → GA w A.in1.in1 B a g F us s → Ext B s.heap → S ∉ F → s.heap.get? S = some (lstObj acc c) →
      All2 (fun v u => IsUnit s.heap v u ∧ ∀ ta, v = .ref ta → ta ∉ F ∧ ta ≠ S) acc.toList done → (∀ b o, b ≠ S → b ∉ F₀ → s₀.heap.get? b = some o → b ∉ F ∧ s.heap.get? b = some o) → s.os = s₀.os → (AllBare s₀.gens → AllBare s.gens) →
      codeAny (model PR w) A (.builtin "list.extend.loop" ⟨[.ref S, .ref a, res], []⟩) R s := by
  intro us
  induction us with
  | nil =>
    intro done F s acc c hall X ext hSF hS hacc hk ho hb
    refine codeAny_builtin PySem.F.entry_extend_loop ?_
    rw [Around.under_plainId PySem.F.plain_extend_loop _]
    show wpAny _ A.in1 (pyNext (.ref a) >>= _) _ _ s
    refine wpAny_bind (gen_nextX (A := A.in1) hh hroom (G.lim.keeps ext) ext X (fun u us' v s' F' e => by cases e) fun _ s' wk => ?_)
    rw [List.append_nil] at hall
    subst hall
    refine wpAny_pure (hR s' acc c (wk.heap _ _ hSF hS) (hacc.mono fun v u ⟨⟨ta, t1, t2, h1, h2⟩, h3⟩ => ⟨ta, t1, t2, h1, wk.heap _ _ (h3 ta h1).1 h2⟩) (fun b o h1 h2 h3 => wk.heap _ _ (hk b o h1 h2 h3).1 (hk b o h1 h2 h3).2) (wk.os.trans ho) fun z => wk.bare (hb z))
  | cons u us ih =>
    intro done F s acc c hall X ext hSF hS hacc hk ho hb
    refine codeAny_builtin PySem.F.entry_extend_loop ?_
    rw [Around.under_plainId PySem.F.plain_extend_loop _]
    show wpAny _ A.in1 (pyNext (.ref a) >>= _) _ _ s
    refine wpAny_bind (gen_nextX (A := A.in1) hh hroom (G.lim.keeps ext) ext X (fun u' us' v s' F' e hu X' wk hF' => ?_) fun e => by cases e)
    cases e
    have hS' := wk.heap _ _ hSF hS
    have hSF' : S ∉ F' := fun hm => (hF' _ hm).elim hSF fun z => by rw [hS] at z; cases z
    have hlen := hacc.len
    have hle : done.length ≤ 2000 := by rw [hall] at hz; simp at hz; omega
    have hsz : acc.size ≤ sizeLine := by
      have : (2000 : Nat) ≤ sizeLine := Nat.le_of_ble_eq_true rfl
      have : acc.toList.length = acc.size := Array.length_toList
      omega
    show wpAny _ A.in1 (updateSeq S (·.push v) >>= _) _ _ _
    refine wpAny_bind ?_
    have oth : ∀ b o, b ≠ S → s'.heap.get? b = some o → (s'.heap.update S (Obj.mapSeq (·.push v))).get? b = some o := fun b o hb e => (Heap.get?_update_other _ _ (Ne.symm hb)).trans e
    obtain ⟨⟨ta, t1, t2, hv, hta⟩, htF⟩ := hu
    have hfreshF : ∀ {b o}, s₀.heap.get? b = some o → b ≠ S → b ∉ F₀ → b ∉ F' := fun {b o} e h1 h2 hm => (hF' _ hm).elim (hk b o h1 h2 e).1 fun z => by rw [(hk b o h1 h2 e).2] at z; cases z
    refine wpAny_updateSeq (hz := hsz) hS' rfl (wpAny_pure ⟨plainId_quiet PySem.F.plain_extend_loop _, ?_⟩) (by simp; omega)
    have hS₂ : ∃ c', (s'.heap.update S (Obj.mapSeq (·.push v))).get? S = some (lstObj (acc.push v) c') := by
      rw [Heap.get?_update_self (Obj.mapSeq (·.push v)) hS' rfl]
      exact ⟨_, rfl⟩
    obtain ⟨c', hS₂⟩ := hS₂
    refine ih (done ++ [u]) F' _ (acc.push v) c' (by rw [hall]; simp) (X'.frame rfl (fun o e => oth _ _ (Ne.symm hSa) e) fun b hb o e => oth b o (fun z => hSF' (z ▸ hb)) e) (fun b o e => oth b o (fun z => by rw [z, hSB] at e; cases e) (wk.heap b o (fun hm => by rw [X.FB b hm] at e; cases e) (ext _ _ e))) hSF' hS₂ ?_ ?_ (wk.os.trans ho) fun z => wk.bare (hb z)
    · rw [Array.toList_push]
      have hne : ta ≠ S := fun z => by rw [z, hS'] at hta; exact absurd (show Value.type "list" = Value.type "tuple" from congrArg Obj.cls (Option.some.inj hta)) (by decide)
      refine All2.snoc (hacc.mono ?_) ⟨⟨ta, t1, t2, hv, oth _ _ hne hta⟩, fun tc e => ?_⟩
      · rintro v' u' ⟨⟨tb, t3, t4, h1, h2⟩, h3⟩
        refine ⟨⟨tb, t3, t4, h1, oth _ _ (h3 tb h1).2 (wk.heap _ _ (h3 tb h1).1 h2)⟩, fun tc e => ⟨fun hm => (hF' _ hm).elim (h3 tc e).1 fun z => ?_, (h3 tc e).2⟩⟩
        rw [h1] at e; cases e; rw [h2] at z; cases z
      · rw [hv] at e; cases e
        exact ⟨htF _ hv, hne⟩
    · intro b o h1 h2 h3
      exact ⟨hfreshF h3 h1 h2, oth _ _ h1 (wk.heap _ _ (hk b o h1 h2 h3).1 (hk b o h1 h2 h3).2)⟩

theorem list_gen (GB : GC mg mb B) (room : Room A 3) {a g : Addr} {C : Addr} {us : List U} {Q : Value → Shared → Prop} (ext : Ext B s.heap) (hz : us.length ≤ 2000) (hC : s.heap.get? C ≠ none)
    (hGA : ∀ A' : Around, A'.handled = none → GA w A' B a g [C] us s)
    (h : ∀ S s' acc c, s.heap.get? S = none → s'.heap.get? S = some (lstObj acc c) → All2 (IsUnit s'.heap) acc.toList us → (∀ b o, b ≠ C → s.heap.get? b = some o → s'.heap.get? b = some o) → s'.os = s.os → (AllBare s.gens → AllBare s'.gens) → Q (.ref S) s') :
    wpAny (model PR w) A (call (.type "list") [.ref a]) Q E s := by
  have fS : s.heap.get? s.heap.objs.size = none := get_fresh (Nat.le_refl _)
  have hSB := fresh_of_ext ext fS
  have hg := (hGA A room.hh).gen
  have haS : s.heap.objs.size ≠ a := fun z => by obtain ⟨o, nm, qn, ho, _⟩ := hg; rw [← z, fS] at ho; cases ho
  have hCS : s.heap.objs.size ∉ [C] := fun z => by rw [List.mem_singleton] at z; rw [z] at fS; exact hC fS
  have k1 : Ext s.heap (s.heap.push { cls := .type "list", data := .seq #[] }) := fun b o e => Heap.get?_push_of_some _ e
  refine callType_codes (Q₁ := fun obj s₁ => obj = .ref s.heap.objs.size ∧ s₁ = { s with heap := s.heap.push { cls := .type "list", data := .seq #[] } }) PySem.F.called_list (PySem.F.typeCall_list_1 _) PySem.F.entry_list_init
    (code_list_new _ ⟨rfl, rfl⟩) fun obj s₁ h₁ => ?_
  obtain ⟨rfl, rfl⟩ := h₁
  have hS : (s.heap.push { cls := .type "list", data := .seq #[] }).get? s.heap.objs.size = some (lstObj #[] 0) := Heap.get?_push_size _ rfl
  refine ⟨⟨_, hS, rfl⟩, PySem.F.args_list_init_2 _ _, ?_⟩
  show wpAny _ A.in1.in1 (do let old ← Builtin.List.listItems (.ref s.heap.objs.size); Builtin.List.listUpdate (.ref s.heap.objs.size) (fun _ => #[]); letGo old.toList.reverse; Builtin.List.listExtendWith (.ref s.heap.objs.size) (.ref a) .none) _ _ _
  refine wpAny_bind ?_
  unfold Builtin.List.listItems
  refine wpAny_bind (wpAny_seqItems hS rfl (wpAny_pure ?_))
  show wpAny _ A.in1.in1 (updateSeq s.heap.objs.size (fun _ => #[]) >>= fun _ => letGo (#[] : Array Value).toList.reverse >>= fun _ => Builtin.List.listExtendWith (.ref s.heap.objs.size) (.ref a) .none) _ _ _
  refine wpAny_bind (wpAny_updateSeq hS rfl ?_)
  have hS₂ := Heap.get?_update_self (Obj.mapSeq (fun _ => (#[] : Array Value))) hS rfl
  have oth2 : ∀ b o, b ≠ s.heap.objs.size → (s.heap.push { cls := .type "list", data := .seq #[] }).get? b = some o → ((s.heap.push { cls := .type "list", data := .seq #[] }).update s.heap.objs.size (Obj.mapSeq (fun _ => (#[] : Array Value)))).get? b = some o := fun b o hb e => (Heap.get?_update_other _ _ (Ne.symm hb)).trans e
  refine wpAny_bind (wpAny_letGo ?_)
  generalize hh2 : (s.heap.push { cls := .type "list", data := .seq #[] }).update s.heap.objs.size (Obj.mapSeq (fun _ => (#[] : Array Value))) = h₂ at hS₂ oth2
  clear hh2
  unfold Builtin.List.listExtendWith
  have hg₂ : h₂.IsGen a g := by obtain ⟨o, nm, qn, ho, r⟩ := hg; exact ⟨o, nm, qn, oth2 _ _ (Ne.symm haS) (k1 _ _ ho), r⟩
  have hT : ∀ tk, (⟨h₂, s.gens, s.drawn, tk, s.os⟩ : Shared).TypeIs (.ref a) "generator" := fun _ => hg₂.typeIs
  refine wpAny_bind (wpAny_typeOf (hT _) ?_)
  have h1 : Builtin.List.listSameRef (.ref s.heap.objs.size) (.ref a) = false := by simp [Builtin.List.listSameRef, haS]
  have h2 : (Value.type "generator" == Value.type "list") = false := by decide
  have h3 : (Value.type "generator" == Value.type "tuple") = false := by decide
  simp only [h1, h2, h3, Bool.or_false, Bool.false_eq_true, if_false]
  refine wpAny_bind (wpAny_pyIter_gen hg₂ ?_)
  refine wpAny_bind (wpAny_holding ?_)
  unfold Builtin.List.listLengthHint
  refine wpAny_bind (wpAny_specialOf (hT _) PySem.F.gen_no_len ?_)
  show wpAny _ _ (specialOf (Value.ref a) (Str.ofString "__length_hint__") >>= _) _ _ _
  refine wpAny_bind (wpAny_specialOf (hT _) PySem.F.gen_no_hint ?_)
  refine wpAny_pure ?_
  show wpAny _ _ (rule "list.extend.makes-room" >>= fun _ => Builtin.List.listTouch (.ref s.heap.objs.size) >>= fun _ =>
    again (.builtin "list.extend.loop" ⟨[.ref s.heap.objs.size, .ref a, .none], []⟩)) _ _ _
  refine wpAny_bind (wpAny_rule ?_)
  refine wpAny_bind ?_
  show wpAny _ _ (updateSeq s.heap.objs.size (·.push .none) >>= fun _ => updateSeq s.heap.objs.size (·.pop)) _ _ _
  refine wpAny_bind (wpAny_updateSeq hS₂ rfl ?_)
  have hS₃ := Heap.get?_update_self (Obj.mapSeq (·.push Value.none)) hS₂ rfl
  refine wpAny_updateSeq (hz := by seq_fits) hS₃ rfl ?_
  have hS₄ := Heap.get?_update_self (Obj.mapSeq (·.pop)) hS₃ rfl
  have oth4 : ∀ b o, b ≠ s.heap.objs.size → s.heap.get? b = some o → ((h₂.update s.heap.objs.size (Obj.mapSeq (·.push Value.none))).update s.heap.objs.size (Obj.mapSeq (·.pop))).get? b = some o :=
    fun b o hb e => (Heap.get?_update_other _ _ (Ne.symm hb)).trans ((Heap.get?_update_other _ _ (Ne.symm hb)).trans (oth2 _ _ hb (k1 _ _ e)))
  generalize (h₂.update s.heap.objs.size (Obj.mapSeq (·.push Value.none))).update s.heap.objs.size (Obj.mapSeq (·.pop)) = h₄ at hS₄ oth4
  have ne : ∀ {b o}, s.heap.get? b = some o → b ≠ s.heap.objs.size := fun e z => by rw [z, fS] at e; cases e
  have X := hGA A.in1.in1.in1 room.hh
  refine wpAny_pure ⟨plainId_quiet PySem.F.plain_extend_loop _, ext_loop (A := A.in1) (s₀ := s) (F₀ := [C]) room.hh room.lt GB haS hSB hz (fun s' acc c e1 e2 e3 e4 e5 => ?_) us [] [C] _ #[] _ rfl
    (X.frame rfl (fun o e => oth4 _ _ (Ne.symm haS) e) fun b hb o e => oth4 b o (ne e) e) (fun b o e => oth4 b o (ne (ext _ _ e)) (ext _ _ e)) hCS hS₄ trivial (fun b o h1 h2 h3 => ⟨h2, oth4 _ _ h1 h3⟩) rfl id⟩
  refine ⟨rfl, ?_⟩
  exact h _ s' acc c fS e1 e2 (fun b o hb e => e3 b o (ne e) (by simpa using hb) e) e4 e5
end
end Mine

namespace Mine

/-- the places of units rise, and lie in the text -/
theorem units_ge : ∀ (l : List Nat) (i : Nat) (esc : Bool), (esc = true → 1 ≤ i) → ∀ u ∈ unitsF i esc l, (if esc then (i : Int) - 1 else i) ≤ u.1 ∧ u.1 < i + l.length
  | [], i, false, _, u, h => by cases h
  | [], i, true, hi, u, h => by
    rw [unitsF, List.mem_singleton] at h
    subst h
    simp; omega
  | c :: r, i, true, hi, u, h => by
    rw [unitsF, List.mem_cons] at h
    rcases h with rfl | h
    · simp; omega
    · have := units_ge r (i + 1) false (by simp) u h
      simp at this ⊢; omega
  | c :: r, i, false, hi, u, h => by
    rw [unitsF] at h
    split at h
    · have := units_ge r (i + 1) true (by simp) u h
      simp at this ⊢; omega
    · rw [List.mem_cons] at h
      rcases h with rfl | h
      · simp; omega
      · have := units_ge r (i + 1) false (by simp) u h
        simp at this ⊢; omega
theorem units_len : ∀ (l : List Nat) (i : Nat) (esc : Bool), (unitsF i esc l).length ≤ l.length + 1
  | [], i, false => by simp [unitsF]
  | [], i, true => by simp [unitsF]
  | c :: r, i, true => by rw [unitsF]; have := units_len r (i + 1) false; simp; omega
  | c :: r, i, false => by
    rw [unitsF]; split
    · have := units_len r (i + 1) true; simp; omega
    · have := units_len r (i + 1) false; simp; omega
theorem units_rise : ∀ (l : List Nat) (i : Nat) (esc : Bool), (esc = true → 1 ≤ i) → ∀ (j k : Nat) (u v : U), j ≤ k → (unitsF i esc l)[j]? = some u → (unitsF i esc l)[k]? = some v → u.1 ≤ v.1
  | [], i, false, _, j, k, u, v, hjk, h1, h2 => by simp [unitsF] at h1
  | [], i, true, _, j, k, u, v, hjk, h1, h2 => by
    rw [unitsF] at h1 h2
    have := List.mem_of_getElem? h1; have := List.mem_of_getElem? h2
    simp at *; subst_vars; simp
  | c :: r, i, true, hi, j, k, u, v, hjk, h1, h2 => by
    rw [unitsF] at h1 h2
    cases j with
    | zero =>
      simp at h1; subst h1
      cases k with
      | zero => simp at h2; subst h2; simp
      | succ k => simp at h2; have := units_ge r (i + 1) false (by simp) v (List.mem_of_getElem? h2); simp at this ⊢; omega
    | succ j =>
      cases k with
      | zero => omega
      | succ k => simp at h1 h2; exact units_rise r (i + 1) false (by simp) j k u v (by omega) h1 h2
  | c :: r, i, false, hi, j, k, u, v, hjk, h1, h2 => by
    rw [unitsF] at h1 h2
    split at h1
    · rename_i hc; rw [if_pos hc] at h2; exact units_rise r (i + 1) true (by simp) j k u v hjk h1 h2
    · rename_i hc; rw [if_neg hc] at h2
      cases j with
      | zero =>
        simp at h1; subst h1
        cases k with
        | zero => simp at h2; subst h2; simp
        | succ k => simp at h2; have := units_ge r (i + 1) false (by simp) v (List.mem_of_getElem? h2); simp at this ⊢; omega
      | succ j =>
        cases k with
        | zero => omega
        | succ k => simp at h1 h2; exact units_rise r (i + 1) false (by simp) j k u v (by omega) h1 h2

theorem skip_ge {us : List U} {lim : Int} : ∀ {f k k' : Nat}, skipTo us lim f k = some k' → k ≤ k'
  | 0, _, _, h => by cases h
  | f + 1, k, k', h => by
    rw [skipTo] at h
    split at h
    · cases h
    · split at h
      · have := skip_ge h; omega
      · cases h; exact Nat.le_refl _

section
variable {w : World} {A : Around} {mg mb : Str → Option Value} {E : Value → Shared → Prop} {s s₀ : Shared} {B H : Heap} {L p dx l u : Addr} {us : List U} {m : Str → Option Value} {st : List Ent} {lk : List Int} {cd : Value}

theorem lapp_ok {Q : Value → Shared → Prop} {vs : List Value} {c : Nat} {v : Value} (hl : s.heap.get? l = some (lstObj vs.toArray c)) (hz : vs.length ≤ 2000)
    (h : ∀ s' c', But l s s' → s'.heap.get? l = some (lstObj (vs ++ [v]).toArray c') → Q .none s') : wpAny (model PR w) A (call (.builtin "list.append") [.ref l, v]) Q E s := by
  refine wpAny_call_entry PySem.F.slot_list_append ⟨_, hl, rfl⟩ entry_app ?_ (args_app _ _)
  unfold Builtin.«list.append»
  refine wpAny_bind (wpAny_of_eq (a := ((.ref l : Value), v)) (by rfl) ?_)
  refine wpAny_bind ?_
  have hz1 : vs.toArray.size ≤ sizeLine := Nat.le_trans (by simpa using hz) (Nat.le_of_ble_eq_true rfl)
  refine wpAny_updateSeq (hz := hz1) hl rfl ?_ (by simp; exact hz1)
  refine wpAny_pure ⟨_, rfl, ?_⟩
  have e := Heap.get?_update_self (Obj.mapSeq (·.push v)) hl rfl
  rw [show Obj.mapSeq (·.push v) (lstObj vs.toArray c) = lstObj (vs ++ [v]).toArray _ by unfold Obj.mapSeq; simp; rfl] at e
  exact h _ _ ⟨fun b o hb e => (Heap.get?_update_other _ _ (Ne.symm hb)).trans e, rfl, id⟩ e

theorem SS.look {s' : Shared} {vs : List Value} {c : Nat} {i : Int} {t : Tok} (T : Stat w mg mb B H L p dx l u us) (σ : SS H s₀ L p dx l m st lk s) (b : But l s s') (hl : s'.heap.get? l = some (lstObj (vs ++ [Value.int i t]).toArray c)) (hv : All2 NumAt vs lk) : SS H s₀ L p dx l m st (lk ++ [i]) s' :=
  ⟨fun b' o h e => b.heap _ _ h.2.2 (σ.kept _ _ h e), σ.ns.at' fun o e => b.heap _ _ (Ne.symm T.lL) e, let ⟨c, ri, h1, h2⟩ := σ.acc; ⟨c, ri, b.heap _ _ T.pl h1, h2.mono fun v e ⟨a, t1, t2, x, y, z⟩ => ⟨a, t1, t2, x, y, b.heap _ _ y.2.2 z⟩⟩,
    ⟨c, vs ++ [.int i t], hl, hv.snoc ⟨t, rfl⟩⟩, b.os.trans σ.os, fun z => b.bare (σ.bare z)⟩

theorem last_at {x : Str} {c : Nat} (h : lastSign x = some c) : (seqIndex? (-1) x.length).bind (x.cps[·]?) = some c := by
  unfold lastSign at h
  have hne : x.cps.toList ≠ [] := fun e => by rw [e] at h; cases h
  have hl : 0 < x.cps.size := by
    rw [← Array.length_toList]; exact List.length_pos_iff.mpr hne
  have e1 : seqIndex? (-1) x.length = some (x.cps.size - 1) := by
    have : x.length = x.cps.size := rfl
    rw [this]
    unfold seqIndex?
    simp
    omega
  rw [e1]
  rw [List.getLast?_eq_getElem?] at h
  simpa using h
end
end Mine

namespace Mine
section
variable {w : World} {A : Around} {mg mb : Str → Option Value} {E : Value → Shared → Prop} {s s₀ : Shared} {B H : Heap} {L p dx l u : Addr} {us : List U} {m : Str → Option Value} {st : List Ent} {lk : List Int} {cd : Value}

theorem pct_d {i : Int} {t u : Tok} {Q : Value → Shared → Prop} (h0 : 0 ≤ i) (h1 : i < 10 ^ 10) (h : ∀ t' k, Q (.str (Str.ofString (toString i)) t') { s with toks := k }) :
    wpAny (model PR w) A (binaryOp .Mod (.str (Str.ofString "%d") t) (.int i u)) Q E s := by
  refine' KPc.mod_int (T := fun i => Str.ofString (toString i)) ?kpcF ?kpcl ?kpch ?kpcm ?_
  case kpcF => kpc_eq
  case kpcl => exact h0
  case kpch => exact h1
  case kpcm => kpc_run
  exact h
theorem big_lit : Str.ofString "Ā\u0000" = ⟨#[256, 0]⟩ := by decide +kernel

/-- the branch of an opening bracket -/
theorem open1 {x : Str} {k : Nat} {un : Str} {tu tp : Tok} {pl : Nat} {Q : Flow → Shared → Prop} (T : Stat w mg mb B H L p dx l u us) (σ : SS H s₀ L p dx l m st lk s) (room : Room A 5) (n : NM x p l u (k : Int) m) (hz : st.length ≤ 800) (hpl : pl < 1000)
    (hu : m (Str.ofString "unit") = some (.str un tu)) (hp : m (Str.ofString "place") = some (.int (pl : Int) tp))
    (h1 : un = ⟨#[40]⟩ → ∀ s' m', SS H s₀ L p dx l m' (topE st pl :: st) lk s' → NM x p l u (k : Int) m' → Q .cont s')
    (h0 : un ≠ ⟨#[40]⟩ → ∀ s', SS H s₀ L p dx l m st lk s' → wpAny (model PR w) A (execs (wBody.drop 3) (eS L cd)) Q E s') :
    wpAny (model PR w) A (execs (wBody.drop 2) (eS L cd)) Q E s := by
  refine wpAny_execs_cons (wpAny_If (wpAny_isTrue_Compare1 (ss_name σ hu (wpAny_Constant_str (eq_str (wpAny_truthy_bool ?_))))))
  by_cases hc : un = ⟨#[40]⟩
  case neg =>
    rw [show (un == Str.ofString "(") = false from beq_eq_false_iff_ne.mpr hc]
    simp only [Bool.false_eq_true, if_false]
    exact wpAny_execs_nil (h0 hc _ σ.tk)
  rw [show (un == Str.ofString "(") = true by rw [hc]; rfl]
  simp only [if_true]
  -- bounds
  refine wpAny_execs_cons (wpAny_Assign_Name (wpAny_Constant_str (ss_st T σ.tk.tk fun s₁ σ₁ => ?_)))
  have n₁ := n.upd (y := Str.ofString "bounds") (v := .str (Str.ofString "Ā\u0000") (s.toks + 1)) (by decide) (by decide) (by decide) (by decide) (by decide)
  have push : ∀ (M : Str → Option Value) (e : Ent) (s₂ : Shared) (tb : Tok), SS H s₀ L p dx l M st lk s₂ → NM x p l u (k : Int) M → M (Str.ofString "place") = some (.int (pl : Int) tp) → M (Str.ofString "bounds") = some (.str ⟨#[e.lo, e.hi]⟩ tb) → e.bg = pl → e = topE st pl →
      wpAny (model PR w) A (execs ((match (wBody[2]?) with | some (Stmt.If (body := b) ..) => b | _ => []).drop 2) (eS L cd)) (fun f s' => match f with | .next => wpAny (model PR w) A (execs (wBody.drop 3) (eS L cd)) Q E s' | f => Q f s') E s₂ := by
    intro M e s₂ tb σ₂ n₂ b1 b2 hbg he
    obtain ⟨ri, ha, hr⟩ := σ₂.accAt T
    obtain ⟨c, hs, tk, v, nn, h1', h2', h3'⟩ := ha
    obtain ⟨hh8, gg, dd, tt, oo⟩ := s₂
    refine wpAny_execs_cons (wpAny_Expr_any (MethodCall_ (ss_name σ₂ n₂.pile (gm_acc (σ₂.gx T).kx h1' h2' gl_push k_push (looks_fn (σ₂.gx T).kx o_push) not_fn ?_))))
    refine callWith_meth (h₀ := B) rfl (T.G.kx _ _ o_push) (spliced_more (ss_name σ₂ b2 (spliced_more (wpAny_BinOp (wpAny_Constant_str (ss_name σ₂.tk b1 (pct_d (Int.natCast_nonneg pl) (by omega) fun t' k' => spliced_none ⟨σ₂.tk.base T, ?_⟩)))))))
    have hp2 : wpAny (model PR w) A (call (.ref 66) [.ref p, .str ⟨#[e.lo, e.hi]⟩ tb, .str (Str.ofString (toString e.bg)) t']) (fun _ s' => wpAny (model PR w) A (execs [.Continue ⟨154, 12, 154, 20⟩] (eS L cd)) (fun f s' => match f with | .next => wpAny (model PR w) A (execs (wBody.drop 3) (eS L cd)) Q E s' | f => Q f s') E s') E { heap := hh8, gens := gg, drawn := dd, toks := k', os := oo } := by
      refine ss_push (e := e) T (σ₂.tk (tk := k')) (room.mono (by omega)) (by omega) fun s₉ σ₉ => ?_
      refine wpAny_execs_cons (wpAny_Continue ?_)
      rw [he] at σ₉
      exact h1 hc s₉ M σ₉ n₂
    rw [hbg] at hp2
    exact hp2
  refine wpAny_execs_cons (wpAny_If (wpAny_isTrue_value (MethodCall_ (ss_name σ₁ n₁.pile (ss_pc T σ₁ (room.mono (by omega)) fun t2 s₂ σ₂ => truthy_int ?_)))))
  cases hst : st with
  | nil =>
    rw [hst] at σ₂
    simp only [List.length_nil, Int.natCast_zero, bne_self_eq_false, Bool.false_eq_true, if_false]
    refine wpAny_execs_nil ?_
    rw [big_lit] at σ₂ n₁
    refine push _ ⟨256, 0, pl⟩ s₂ _ (by rw [hst]; exact σ₂) n₁ ((upd_ne (by decide)).trans hp) upd_same rfl (by rw [hst]; rfl)
  | cons e st' =>
    have hne : (((e :: st').length : Int) != 0) = true := by simp; omega
    rw [hne]
    simp only [if_true]
    obtain ⟨c0, ri0, hacc0, hr0⟩ := σ₂.acc
    refine wpAny_execs_cons (wpAny_Assign_Name (sub_any (sub_any (ss_name σ₂ n₁.pile ?_))))
    refine wpAny_BinOp (MethodCall_ (ss_name σ₂ n₁.pile (ss_pc T σ₂ (room.mono (by omega)) fun t3 s₃ σ₃ => wpAny_Constant_int (sub_int ?_))))
    obtain ⟨c1, ri1, hacc1, hr1⟩ := σ₃.acc
    rw [hst] at hr1
    cases ri1 with
    | nil => exact hr1.elim
    | cons y ri1 =>
      obtain ⟨⟨a, t4, t5, rfl, hnx, hta⟩, hr2⟩ := hr1
      have hlen := hr2.len
      refine ⟨brk_acc (σ₃.tk.tk.gx T).kx hacc1, get_acc (σ₃.tk.tk.gx T).kx hacc1 (fitsIndex_of ?_ ?_) ?_ (v := .ref a) ?_ ?_⟩
      · rw [hst]; simp <;> omega
      · rw [hst] at hz ⊢; simp at hz ⊢; omega
      · rw [hst]; simp <;> omega
      · rw [hst]; simp [hlen]
      refine wpAny_Constant_int ⟨brk_tuple (s := { s₃ with toks := s₃.toks + 1 + 1 + 1 }) hta rfl, ?_⟩
      refine getItem_tuple (s := { s₃ with toks := s₃.toks + 1 + 1 + 1 }) (j := 0) ⟨_, hta, rfl, _, rfl⟩ (by decide) (by decide) (by rfl) rfl ?_
      refine ss_st T σ₃.tk.tk.tk fun s₄ σ₄ => ?_
      refine wpAny_execs_nil ?_
      refine push _ ⟨e.lo, e.hi, pl⟩ s₄ _ σ₄ (n₁.upd (by decide) (by decide) (by decide) (by decide) (by decide)) ((upd_ne (by decide)).trans ((upd_ne (by decide)).trans hp)) upd_same rfl (by rw [hst]; rfl)
end
end Mine

namespace Mine
section
variable {w : World} {A : Around} {mg mb : Str → Option Value} {E : Value → Shared → Prop} {s s₀ : Shared} {B H : Heap} {L p dx l u : Addr} {us : List U} {m : Str → Option Value} {st : List Ent} {lk : List Int} {cd : Value}

theorem fmod2' (n : Nat) : (n : Int).fmod 2 = if n % 2 = 0 then 0 else 1 := by
  have : (n : Int).fmod 2 = ((n % 2 : Nat) : Int) := by
    rw [Int.fmod_eq_emod_of_nonneg _ (by decide)]; omega
  rw [this]
  split <;> omega

theorem t_tok : (Str.ofString "EXACT_TOKEN_TYPES", Value.ref 127) ∈ gtab := by simp [gtab]
theorem turn3 {x : Str} {k : Nat} {un : Str} {tu tp : Tok} {pl : Nat} {Q : Flow → Shared → Prop} (T : Stat w mg mb B H L p dx l u us) (σ : SS H s₀ L p dx l m st lk s) (room : Room A 5) (n : NM x p l u (k : Int) m) (hz : st.length ≤ 800) (hlk : lk.length ≤ 1000) (hpl : pl < 1000)
    (hu : m (Str.ofString "unit") = some (.str un tu)) (hp : m (Str.ofString "place") = some (.int (pl : Int) tp))
    (hne : un = ⟨#[41]⟩ → st ≠ [])
    (hret : un = ⟨#[41]⟩ → ∀ e, st = [e] → ∀ s' m' r t, SS H s₀ L p dx l m' [] lk s' → s'.heap.get? r = some { cls := .type "tuple", data := .seq #[.str ⟨#[e.lo]⟩ t, .ref l] } → Q (.ret (.ref r)) s')
    (htell1 : un = ⟨#[41]⟩ → ∀ e e1 st1, st = e :: e1 :: st1 → ∀ s' m' t, SS H s₀ L p dx l m' (e1 :: st1) lk s' → NM x p l u (k : Int) m' → m' (Str.ofString "worth") = some (.str ⟨#[if (e1 :: st1).length % 2 = 0 then e.lo else e.hi]⟩ t) → m' (Str.ofString "place") = some (.int (pl : Int) tp) → wpAny (model PR w) A (execs (wBody.drop 4) (eS L cd)) Q E s')
    (htok : un ≠ ⟨#[41]⟩ → ∃ wo, (lastSign un).bind tok = some wo ∧ ∀ s' m' t, SS H s₀ L p dx l m' st (lk ++ [(pl : Int)]) s' → NM x p l u (k : Int) m' → m' (Str.ofString "worth") = some (.str ⟨#[wo]⟩ t) → m' (Str.ofString "place") = some (.int (pl : Int) tp) → wpAny (model PR w) A (execs (wBody.drop 4) (eS L cd)) Q E s') :
    wpAny (model PR w) A (execs (wBody.drop 3) (eS L cd)) Q E s := by
  refine wpAny_execs_cons (wpAny_If (wpAny_isTrue_Compare1 (ss_name σ hu (wpAny_Constant_str (eq_str (wpAny_truthy_bool ?_))))))
  by_cases hc : un = ⟨#[41]⟩
  · rw [show (un == Str.ofString ")") = true by rw [hc]; rfl]
    simp only [if_true]
    cases hst : st with
    | nil => exact absurd hst (hne hc)
    | cons e st' =>
      rw [hst] at σ
      have hz' : st'.length ≤ 799 := by rw [hst] at hz; simp at hz; omega
      refine wpAny_execs_cons (wpAny_Assign_Name (sub_any (MethodCall_ (ss_name σ.tk n.pile (ss_pop T σ.tk (room.mono (by omega)) (by omega) fun y s₁ σ₁ hy => ?_)))))
      obtain ⟨ta, t1, t2, rfl, hnx, hta⟩ := hy
      refine wpAny_Constant_int ⟨brk_tuple (s := { s₁ with toks := s₁.toks + 1 }) hta rfl, ?_⟩
      refine getItem_tuple (s := { s₁ with toks := s₁.toks + 1 }) (j := 0) ⟨_, hta, rfl, _, rfl⟩ (by decide) (by decide) (by rfl) rfl ?_
      refine ss_st T σ₁.tk fun s₂ σ₂ => ?_
      have n₂ := n.upd (y := Str.ofString "bounds") (v := .str ⟨#[e.lo, e.hi]⟩ t1) (by decide) (by decide) (by decide) (by decide) (by decide)
      refine wpAny_execs_cons (wpAny_Assign_Name (sub_any (ss_name σ₂ upd_same (wpAny_BinOp (MethodCall_ (ss_name σ₂ n₂.pile (ss_pc T σ₂ (room.mono (by omega)) fun t3 s₃ σ₃ => wpAny_Constant_int (mod_int' (by decide) ⟨brk_str, ?_⟩))))))))
      rw [fmod2']
      have hget : ∀ (Q' : Value → Shared → Prop), (∀ s₄ t, SS H s₀ L p dx l (upd m (Str.ofString "bounds") (.str ⟨#[e.lo, e.hi]⟩ t1)) st' lk s₄ → Q' (.str ⟨#[if st'.length % 2 = 0 then e.lo else e.hi]⟩ t) s₄) →
          wpAny (model PR w) A (getItem (.str ⟨#[e.lo, e.hi]⟩ t1) (.int (if st'.length % 2 = 0 then 0 else 1) (s₃.toks + 1))) Q' E { s₃ with toks := s₃.toks + 1 + 1 } := by
        intro Q' hq
        by_cases hev : st'.length % 2 = 0
        · rw [if_pos hev]
          rw [if_pos hev] at hq
          exact P.getItem_str (s := { s₃ with toks := s₃.toks + 1 + 1 }) (c := e.lo) (by decide) (by rfl) (hq _ _ σ₃.tk)
        · rw [if_neg hev]
          rw [if_neg hev] at hq
          exact P.getItem_str (s := { s₃ with toks := s₃.toks + 1 + 1 }) (c := e.hi) (by decide) (by rfl) (hq _ _ σ₃.tk)
      refine hget _ fun s₄ t4 σ₄ => ss_st T σ₄ fun s₅ σ₅ => ?_
      have n₅ := n₂.upd (y := Str.ofString "worth") (v := .str ⟨#[if st'.length % 2 = 0 then e.lo else e.hi]⟩ t4) (by decide) (by decide) (by decide) (by decide) (by decide)
      refine wpAny_execs_cons (wpAny_If (wpAny_isTrue_Compare1 (MethodCall_ (ss_name σ₅ n₅.pile (ss_pc T σ₅ (room.mono (by omega)) fun t6 s₆ σ₆ => wpAny_Constant_int (eq_int (wpAny_truthy_bool ?_))))))) 
      cases hst' : st' with
      | nil =>
        rw [hst'] at σ₆
        simp only [List.length_nil, Int.natCast_zero, beq_self_eq_true, if_true]
        refine wpAny_execs_cons (wpAny_Return_some (wpAny_Tuple (spliced_more (ss_name (v := .str ⟨#[e.lo]⟩ t4) σ₆.tk upd_same (spliced_more (ss_name σ₆.tk n₅.looked (spliced_none ⟨Nat.le_of_ble_eq_true rfl, ?_⟩)))))))
        have σ₇ := σ₆.ext (h' := s₆.heap.push { cls := .type "tuple", data := .seq #[.str ⟨#[e.lo]⟩ t4, .ref l] }) (tk := s₆.toks + 1) fun b o z => Heap.get?_push_of_some _ z
        exact hret hc e (by rw [hst, hst']) _ _ _ t4 σ₇ (Heap.get?_push_size _ rfl)
      | cons e1 st1 =>
        rw [hst'] at σ₆ n₅
        rw [show ((((e1 :: st1).length : Nat) : Int) == 0) = false by simp; omega]
        simp only [Bool.false_eq_true, if_false]
        refine wpAny_execs_nil (wpAny_execs_nil ?_)
        exact htell1 hc e e1 st1 (by rw [hst, hst']) _ _ t4 σ₆.tk n₅ upd_same ((upd_ne (by decide)).trans ((upd_ne (by decide)).trans hp))
  · rw [show (un == Str.ofString ")") = false from beq_eq_false_iff_ne.mpr hc]
    simp only [Bool.false_eq_true, if_false]
    obtain ⟨wo, hwo, htok⟩ := htok hc
    obtain ⟨c, hl, htk⟩ := Option.bind_eq_some_iff.mp hwo
    obtain ⟨es, nn, hd127, _⟩ := o_tok (w := w)
    refine wpAny_execs_cons (wpAny_Assign_Name (wpAny_Call_NameR (ev_bname (σ.tk.gx T).gc b_chr (callWith_builtin1 (sub_any (ev_gname (σ.tk.gx T).gc t_tok (sub_any (ss_name σ.tk hu (wpAny_UnaryOp (wpAny_Constant_int (neg_int ⟨brk_str, P.getItem_str (by decide) (last_at hl) ⟨?_, ?_⟩⟩)))))))))))
    · exact brk_dict ((σ.gx T).kx _ _ hd127) rfl
    refine tok_ok (σ.gx T).kx htk fun t5 s₅ n₅ => ?_
    have σ₅ : SS H s₀ L p dx l m st lk s₅ := (σ.tk (tk := _)).now n₅
    have hwz : wo < 256 := by
      unfold tok at htk
      obtain ⟨a, b, h1, h2⟩ := List.lookup_eq_some_iff.mp htk
      have : (c, wo) ∈ tokTab := by rw [h1]; simp
      simp [tokTab] at this
      omega
    refine P.chr_of_int (by simp; omega) ?_
    rw [show ((wo : Int)).toNat = wo from rfl]
    refine ss_st T σ₅.tk fun s₆ σ₆ => ?_
    have n₆ := n.upd (y := Str.ofString "worth") (v := .str ⟨#[wo]⟩ s₅.toks) (by decide) (by decide) (by decide) (by decide) (by decide)
    obtain ⟨cl, vs, hlst, hvs⟩ := σ₆.lst
    have hlen := hvs.len
    refine wpAny_execs_cons (wpAny_Expr_any (MethodCall_ (ss_name σ₆ n₆.looked (getMethod_builtin ⟨_, hlst, rfl⟩ PySem.F.plainAttrs_list PySem.F.slot_list_append ty_app (fun a e => by cases e; exact ⟨_, hlst, rfl⟩) ?_))))
    refine Calls.callWith_builtin rfl (Calls.evalArgs_plain (spliced_more (ss_name σ₆ ((upd_ne (by decide)).trans hp) (spliced_none ?_))))
    refine lapp_ok hlst (by omega) fun s₇ c₇ b₇ hl₇ => ?_
    refine wpAny_execs_nil ?_
    exact htok _ _ _ (σ₆.look T b₇ hl₇ hvs) n₆ upd_same ((upd_ne (by decide)).trans hp)
end
end Mine

namespace Mine
/-- what is said of the pile's entries at a turn -/
def Good (us : List U) (k : Nat) (st : List Ent) : Prop := ∀ e ∈ st, 0 ≤ e.bg ∧ ∀ (j : Nat) (un : U), k ≤ j → us[j]? = some un → e.bg ≤ un.1
theorem Good.mono {us : List U} {k k' : Nat} {st : List Ent} (g : Good us k st) (h : k ≤ k') : Good us k' st := fun e he => ⟨(g e he).1, fun j un hj hu => (g e he).2 j un (Nat.le_trans h hj) hu⟩
theorem mv_bg (n wo : Nat) (e : Ent) : (mv n wo e).bg = e.bg := by unfold mv; split <;> rfl

section
variable {w : World} {A : Around} {mg mb : Str → Option Value} {E : Value → Shared → Prop} {s s₀ : Shared} {B H : Heap} {L p dx l u : Addr} {us : List U} {m : Str → Option Value} {st : List Ent} {lk : List Int} {cd : Value}

theorem turn {x : Str} {N k : Nat} {wr : Nat} {lr : List Int} {Q : Flow → Shared → Prop} (T : Stat w mg mb B H L p dx l u us) (σ : SS H s₀ L p dx l m st lk s) (room : Room A 5) (n : NM x p l u (k : Int) m)
    (hus : us = unitsF 0 false x.cps.toList) (hx34 : 34 ∉ x.cps.toList) (hxz : x.cps.size ≤ 700) (hst : st.length ≤ k) (hlk : lk.length ≤ k) (hg : Good us k st) (hkl : k < us.length)
    (hrun : srun x.cps.toList us (N + 1) k st lk = some (wr, lr))
    (hcont : ∀ f, (f = .next ∨ f = .cont) → ∀ k' st' lk' s' m', SS H s₀ L p dx l m' st' lk' s' → NM x p l u ((k' : Nat) : Int) m' → st'.length ≤ k' → lk'.length ≤ k' → Good us k' st' → srun x.cps.toList us N k' st' lk' = some (wr, lr) → Q f s')
    (hret : ∀ s' m' r t, SS H s₀ L p dx l m' [] lr s' → s'.heap.get? r = some { cls := .type "tuple", data := .seq #[.str ⟨#[wr]⟩ t, .ref l] } → Q (.ret (.ref r)) s') :
    wpAny (model PR w) A (execs wBody (eS L cd)) Q E s := by
  have hlen : us.length ≤ x.cps.size + 1 := by rw [hus]; have := units_len x.cps.toList 0 false; simpa using this
  obtain ⟨un, hun⟩ : ∃ un, us[k]? = some un := ⟨_, List.getElem?_eq_getElem hkl⟩
  have hpl := units_ge x.cps.toList 0 false (by simp) un (by rw [← hus]; exact List.mem_of_getElem? hun)
  simp at hpl
  obtain ⟨pl, hplE⟩ := Int.eq_ofNat_of_zero_le hpl.1
  have hplx : pl < x.cps.size := by omega
  -- place, unit = units[k]
  refine wpAny_execs_cons (Assign_Tuple (ev_unit T σ n hun (by omega) fun a t1 t2 hta => ?_))
  refine wpAny_assign_Tuple room.hh ⟨_, hta, rfl, _, rfl⟩ rfl rfl fun h₂ hx₂ => ?_
  have σ₂ := σ.ext (h' := h₂) (tk := s.toks) fun b o q => hx₂ b o (Nat.ne_of_lt (Heap.lt_size q)) q
  show wpAny _ _ (do holding [_] (assign (.Name (Str.ofString "place") _) _ (.int un.1 t1)); do holding [] (assign (.Name (Str.ofString "unit") _) _ (.str un.2 t2)); pure ()) _ _ _
  refine wpAny_bind (wpAny_holding (wpAny_assign_Name (ss_st T σ₂ fun s₃ σ₃ => ?_)))
  refine wpAny_bind (wpAny_holding (wpAny_assign_Name (ss_st T σ₃ fun s₄ σ₄ => wpAny_pure ?_)))
  have n₄ := (n.upd (y := Str.ofString "place") (v := .int un.1 t1) (by decide) (by decide) (by decide) (by decide) (by decide)).upd (y := Str.ofString "unit") (v := .str un.2 t2) (by decide) (by decide) (by decide) (by decide) (by decide)
  -- k += 1
  obtain ⟨tk, hkm⟩ := n₄.k
  refine wpAny_execs_cons (wpAny_AugAssign_Name (wpAny_loadName_local rfl rfl σ₄.ns hkm (wpAny_Constant_int (iadd_int (ss_st T σ₄.tk.tk fun s₅ σ₅ => ?_)))))
  have n₅ : NM x p l u ((k + 1 : Nat) : Int) (upd (upd (upd m (Str.ofString "place") (.int un.1 t1)) (Str.ofString "unit") (.str un.2 t2)) (Str.ofString "k") (.int ((k : Int) + 1) (s₄.toks + 1))) := n₄.updk
  have b1 : (upd (upd (upd m (Str.ofString "place") (.int un.1 t1)) (Str.ofString "unit") (.str un.2 t2)) (Str.ofString "k") (.int ((k : Int) + 1) (s₄.toks + 1))) (Str.ofString "unit") = some (.str un.2 t2) := (upd_ne (by decide)).trans upd_same
  have b2 : (upd (upd (upd m (Str.ofString "place") (.int un.1 t1)) (Str.ofString "unit") (.str un.2 t2)) (Str.ofString "k") (.int ((k : Int) + 1) (s₄.toks + 1))) (Str.ofString "place") = some (.int (pl : Int) t1) := by rw [upd_ne (by decide), upd_ne (by decide), upd_same, hplE]
  generalize upd (upd (upd m (Str.ofString "place") (.int un.1 t1)) (Str.ofString "unit") (.str un.2 t2)) (Str.ofString "k") (.int ((k : Int) + 1) (s₄.toks + 1)) = M at σ₅ n₅ b1 b2
  clear σ₄ σ₃ σ₂ n₄ hkm hta
  rw [srun, hun] at hrun
  dsimp only at hrun
  -- the telling, in common
  have tell : ∀ (M' : Str → Option Value) (st' : List Ent) (lk' : List Int) (s₆ : Shared) (wo : Nat) (tw : Tok), SS H s₀ L p dx l M' st' lk' s₆ → NM x p l u ((k + 1 : Nat) : Int) M' → M' (Str.ofString "worth") = some (.str ⟨#[wo]⟩ tw) → M' (Str.ofString "place") = some (.int (pl : Int) t1) →
      st'.length ≤ k → lk'.length ≤ k + 1 → Good us k st' →
      (match st' with
          | [] => none
          | e :: st => if cutP (mv st.length wo e) then (match skipTo us (findEnd x.cps.toList (mv st.length wo e).bg.toNat x.cps.toList.length (un.1.toNat + 1) - 1) (us.length + 1) (k + 1) with | none => none | some k' => srun x.cps.toList us N k' (mv st.length wo e :: st) lk')
            else srun x.cps.toList us N (k + 1) (mv st.length wo e :: st) lk') = some (wr, lr) →
      wpAny (model PR w) A (execs (wBody.drop 4) (eS L cd)) Q E s₆ := by
    intro M' st' lk' s₆ wo tw σ₆ n₆ c1 c2 hs6 hl6 hg6 hr6
    cases st' with
    | nil => cases hr6
    | cons e st'' =>
      dsimp only at hr6
      have hs6' : st''.length ≤ k - 1 ∧ 1 ≤ k := by simp at hs6; omega
      refine tell1 T σ₆ (room.mono (by omega)) n₆ (by omega) c1 c2 fun s₇ M7 σ₇ n₇ d1 d2 d3 d4 => ?_
      have hge := hg6 e (.head _)
      have hg7 : Good us (k + 1) (mv st''.length wo e :: st'') := fun e' he' => by
        rcases List.mem_cons.mp he' with rfl | he'
        · rw [mv_bg]; exact ⟨hge.1, fun j un hj hu => hge.2 j un (by omega) hu⟩
        · exact ((hg6.mono (Nat.le_succ k)) e' (.tail _ he'))
      refine tell2 T σ₇ room n₇ hx34 (by omega) (by omega) d1 d2 d3 d4 (by rw [mv_bg]; exact hge.1) (by rw [mv_bg, ← hplE]; exact hge.2 k un (Nat.le_refl _) hun) hplx (fun hcut s₈ σ₈ => ?_) fun hcut => ?_
      · rw [hcut] at hr6
        simp only [Bool.false_eq_true, if_false] at hr6
        exact hcont _ (.inl rfl) (k + 1) _ _ _ _ σ₈ n₇ (by simp; omega) hl6 hg7 hr6
      · rw [hcut] at hr6
        simp only [if_true] at hr6
        rw [show un.1.toNat = pl by rw [hplE]; rfl] at hr6
        cases hsk : skipTo us (findEnd x.cps.toList (mv st''.length wo e).bg.toNat x.cps.toList.length (pl + 1) - 1) (us.length + 1) (k + 1) with
        | none => rw [hsk] at hr6; cases hr6
        | some k' =>
          rw [hsk] at hr6
          have hk' := skip_ge hsk
          exact ⟨k', rfl, fun s₈ M8 σ₈ n₈ => hcont _ (.inl rfl) k' _ _ _ _ σ₈ n₈ (by simp; omega) (by omega) (hg7.mono hk') hr6⟩
  refine open1 T σ₅ room n₅ (by omega) (by omega) b1 b2 (fun hop s₆ M6 σ₆ n₆ => ?_) fun hop s₆ σ₆ => ?_
  · rw [if_pos hop] at hrun
    rw [hplE] at hrun
    refine hcont _ (.inr rfl) (k + 1) _ _ _ _ σ₆ n₆ (by simp; omega) (by omega) (fun e he => ?_) hrun
    rcases List.mem_cons.mp he with rfl | he
    · have : (topE st pl).bg = pl := by cases st <;> rfl
      rw [this]
      refine ⟨Int.natCast_nonneg _, fun j un' hj hu => ?_⟩
      rw [← hplE]
      exact units_rise x.cps.toList 0 false (by simp) k j un un' (by omega) (by rw [← hus]; exact hun) (by rw [← hus]; exact hu)
    · exact (hg.mono (Nat.le_succ k)) e he
  · rw [if_neg hop] at hrun
    refine turn3 T σ₆ room n₅ (by omega) (by omega) (by omega) b1 b2 (fun hcl e => ?_) (fun hcl e he s₇ M7 r t σ₇ hr => ?_) (fun hcl e e1 st1 he s₇ M7 t σ₇ n₇ c1 c2 => ?_) fun hcl => ?_
    · rw [if_pos hcl, e] at hrun; cases hrun
    · rw [if_pos hcl, he] at hrun
      simp only [List.length_nil, Nat.zero_mod, if_true, Option.some.injEq, Prod.mk.injEq] at hrun
      obtain ⟨rfl, rfl⟩ := hrun
      exact hret _ _ _ t σ₇ hr
    · rw [if_pos hcl, he] at hrun
      dsimp only at hrun
      rw [if_neg (by simp)] at hrun
      exact tell _ _ _ _ _ t σ₇ n₇ c1 c2 (by rw [he] at hst; simp at hst ⊢; omega) (by omega) (fun e' h' => hg e' (by rw [he]; exact .tail _ h')) hrun
    · rw [if_neg hcl] at hrun
      cases htk : (lastSign un.2).bind tok with
      | none => rw [htk] at hrun; cases hrun
      | some wo =>
        rw [htk] at hrun
        dsimp only at hrun
        rw [hplE] at hrun
        exact ⟨wo, rfl, fun s₇ M7 t σ₇ n₇ c1 c2 => tell _ _ _ _ _ t σ₇ n₇ c1 c2 hst (by simp; omega) hg (by rw [hplE]; exact hrun)⟩
end
end Mine

namespace Mine
theorem t_acc : (Str.ofString "_Accumulator", Value.ref 122) ∈ gtab := by simp [gtab]
section
variable {w : World} {A : Around} {B : Heap} {mg mb : Str → Option Value}
theorem call_genX {E : Value → Shared → Prop} {s : Shared} {x : Str} {t : Tok} {Q : Value → Shared → Prop} (GB : GC mg mb B) (hroom : A.depth < recursionLimit) (ext : Ext B s.heap)
    (h : ∀ a g C s', Ext s.heap s'.heap → s'.os = s.os → (AllBare s.gens → AllBare s'.gens) → s.heap.get? C = none → s.heap.get? a = none → s'.heap.get? C ≠ none →
      (∀ A' : Around, A'.handled = none → GA w A' B a g [C] (unitsF 0 false x.cps.toList) s') → Q (.ref a) s') :
    wpAny (model PR w) A (call (.ref 28) [.str x t]) Q E s := by
  have G : GC mg mb s.heap := GB.keeps ext
  obtain ⟨o, pm, cd, ho, hd, hcd⟩ := G.fn (28, Str.ofString "_iter_escaped_chars", 2) (by simp [fns])
  refine wpAny_call (codeAny_call_generator (body := fnBody 2) hroom ho hd rfl rfl rfl hcd ?_)
  refine wpAny_of_eq (a := [(Str.ofString "addr", Value.str x t)]) rfl ?_
  refine wpAny_newFunctionEnv (show ∀ x ∈ (fnScope 2).names, x.2 ≠ .cell by decide) (locs rfl) (fun h₁ hn₁ hs₁ => ⟨G.lim.fresh _ hs₁, ?_⟩) rfl
  have e1 : Ext s.heap h₁ := fun b o e => hs₁.extBut b o (Nat.ne_of_lt (Heap.lt_size e)) (Heap.get?_push_of_some _ e)
  have hz : h₁.objs.size = s.heap.objs.size + 1 := by rw [hs₁.1, Heap.size_push]
  show Q (.ref h₁.objs.size) _
  refine h h₁.objs.size s.gens.size s.heap.objs.size _ (fun b o e => Heap.get?_push_of_some _ (e1 b o e)) rfl (fun hb => hb.push rfl) (get_fresh (Nat.le_refl _)) (get_fresh (by rw [hz]; exact Nat.le_succ _)) (fun z => by obtain ⟨oC, _, _, q, _⟩ := hn₁; exact absurd ((Heap.get?_push_of_some _ q).symm.trans z) (by simp)) fun A' hh => ⟨?_, ⟨.fresh (.func (fnBody 2) (genEnv' s.heap.objs.size 28 cd)), ?_, ?_⟩, ?_, ?_⟩
  · exact ⟨_, _, _, Heap.get?_push_size _ rfl, rfl, rfl, rfl⟩
  · exact Array.getElem?_push_size ..
  · exact gen_start (m := fun x_1 => List.lookup x_1 [(Str.ofString "addr", Value.str x t)].reverse) hh GB (hn₁.push _) (by rfl) (fresh_of_ext ext (get_fresh (Nat.le_refl _)))
  · intro hm
    rw [List.mem_singleton] at hm
    rw [hz] at hm
    exact absurd hm (Nat.succ_ne_self _)
  · intro b hb
    rw [List.mem_singleton.mp hb]
    exact fresh_of_ext ext (get_fresh (Nat.le_refl _))
end
section
variable {w : World} {A : Around} {mg mb : Str → Option Value} {E : Value → Shared → Prop} {s : Shared}

theorem searched_ok {x : Str} {t : Tok} {N : Nat} {wr : Nat} {lr : List Int} {Q : Value → Shared → Prop} (G : GX w mg mb s.heap) (room : Room A 6) (hx34 : 34 ∉ x.cps.toList) (hxz : x.cps.size ≤ 700)
    (hrun : srun x.cps.toList (unitsF 0 false x.cps.toList) N 0 [] [] = some (wr, lr))
    (h : ∀ s' r l t c vs, Now s s' → s'.heap.get? r = some { cls := .type "tuple", data := .seq #[.str ⟨#[wr]⟩ t, .ref l] } → s'.heap.get? l = some (lstObj (List.toArray vs) c) → All2 NumAt vs lr → Q (.ref r) s') :
    wpAny (model PR w) A (call (.ref 157) [.str x t]) Q E s := by
  refine enter (name := Str.ofString "_law_searched") (i := 64) (binds := [(Str.ofString "text", .str x t)]) G.gc f_searched room.lt (fun _ _ => rfl) (locs rfl) fun h₁ cd F => ?_
  have room' := room.deeper (envOf (Str.ofString "_law_searched") (fnScope 64) s.heap.objs.size 157 cd)
  generalize hA : A.deeper (envOf (Str.ofString "_law_searched") (fnScope 64) s.heap.objs.size 157 cd) = A' at room' ⊢
  clear hA room
  have σ₁ := St.start (tk := s.toks + 1) F
  have hL : s.heap.get? s.heap.objs.size = none := get_fresh (Nat.le_refl _)
  have hul : (unitsF 0 false x.cps.toList).length ≤ x.cps.size + 1 := by have := units_len x.cps.toList 0 false; simpa using this
  -- units = list(_iter_escaped_chars(text))
  refine wpAny_execs_cons (wpAny_Assign_Name (wpAny_Call_NameR (ev_bname (σ₁.gc G.gc) b_list (callWith_type1 (ev_call (σ₁.gc G.gc) t_iter f_iter (spliced_more (r_name σ₁ rfl (spliced_none ⟨fun _ _ e => e, ?_⟩))))))))
  refine call_genX G.gc room'.lt F.keep fun a g C s₂ e2 o2 b2 fC fa hCn hGA => ?_
  have hCL : C ≠ s.heap.objs.size := fun z => by obtain ⟨oL, _, _, q, _⟩ := F.ns; rw [z, q] at fC; cases fC
  have F₂ := fr_ext F e2
  refine list_gen G.gc (room'.mono (by omega)) F₂.keep (by omega) hCn hGA fun S s₃ acc c fS hS hun k3 o3 b3 => ?_
  have hSL : S ≠ s.heap.objs.size := fun z => by obtain ⟨oL, _, _, q, _⟩ := F₂.ns; rw [z, q] at fS; cases fS
  have hCB : s.heap.get? C = none := fresh_of_ext F.keep fC
  have σ₃ : St s.heap s s.heap.objs.size _ [] s₃ := ⟨⟨F₂.ns.at' fun o e => k3 _ _ (Ne.symm hCL) e, fun b o e => k3 b o (fun z => by rw [z, hCB] at e; cases e) (F₂.keep b o e), F.above⟩, .nil, o3.trans o2, fun z => b3 (b2 z)⟩
  clear hGA e2 k3 F₂ fa
  -- what the list of units keeps
  have hU : ∀ h' : Heap, (∀ b o, b ≠ s.heap.objs.size → s₃.heap.get? b = some o → h'.get? b = some o) → h'.get? S = some (lstObj acc c) ∧ All2 (fun v (x : U) => ∃ a t1 t2, v = .ref a ∧ a ≠ s.heap.objs.size ∧ s₃.heap.get? a ≠ none ∧ h'.get? a = some { cls := .type "tuple", data := .seq #[.int x.1 t1, .str x.2 t2] }) acc.toList (unitsF 0 false x.cps.toList) := by
    intro h' hk
    refine ⟨hk _ _ hSL hS, hun.mono ?_⟩
    rintro v u' ⟨ta, t1, t2, rfl, hta⟩
    have hne : ta ≠ s.heap.objs.size := fun z => by
      obtain ⟨oL, es, ep, q, q2, _⟩ := σ₃.fr.ns
      rw [z, q] at hta
      have := congrArg Obj.data (Option.some.inj hta)
      rw [q2] at this
      cases this
    exact ⟨ta, t1, t2, rfl, hne, (by rw [hta]; simp), hk _ _ hne hta⟩
  obtain ⟨tx, hs3⟩ : ∃ h₄ : Heap, h₄ = s₃.heap := ⟨_, rfl⟩
  refine wpAny_storeName_local rfl σ₃.fr.ns (fun h₄ hn₄ hs₄ => ?_) rfl
  have k4 : ∀ b o, b ≠ s.heap.objs.size → s₃.heap.get? b = some o → h₄.get? b = some o := fun b o hb e => (hs₄.2 b hb).trans e
  have σ₄ : St s.heap s s.heap.objs.size _ [] { s₃ with heap := h₄ } := ⟨σ₃.fr.set hn₄ hs₄, .nil, σ₃.os, σ₃.bare⟩
  -- pile = _Accumulator()
  refine wpAny_execs_cons (wpAny_Assign_Name (wpAny_Call_NameR (ev_gname (σ₄.gc G.gc) t_acc (callWith_K0 (K := KF w) (G.kx.keeps σ₄.fr.keep) k_keep (acc_new G σ₄.fr.keep (room'.mono (by omega)) fun s₅ p dx n₅ fp fdx hacc => ?_)))))
  have σ₅ := σ₄.tk.now n₅
  refine wpAny_storeName_local rfl σ₅.fr.ns (fun h₆ hn₆ hs₆ => ?_) rfl
  have k6 : ∀ b o, b ≠ s.heap.objs.size → s₅.heap.get? b = some o → h₆.get? b = some o := fun b o hb e => (hs₆.2 b hb).trans e
  have σ₆ : St s.heap s s.heap.objs.size _ [] { s₅ with heap := h₆ } := ⟨σ₅.fr.set hn₆ hs₆, .nil, σ₅.os, σ₅.bare⟩
  -- looked = []
  refine wpAny_execs_cons (wpAny_Assign_Name (wpAny_List (spliced_none ⟨Nat.zero_le _, ?_⟩)))
  have n₇ : Now { s₅ with heap := h₆ } { s₅ with heap := h₆.push (lstObj #[] 0) } := ⟨fun b o e => Heap.get?_push_of_some _ e, rfl, id⟩
  have σ₇ := σ₆.now n₇
  have fl : h₆.get? h₆.objs.size = none := get_fresh (Nat.le_refl _)
  have hl₇ : (h₆.push (lstObj #[] 0)).get? h₆.objs.size = some (lstObj #[] 0) := Heap.get?_push_size _ rfl
  refine wpAny_storeName_local rfl σ₇.fr.ns (fun h₈ hn₈ hs₈ => ?_) rfl
  have k8 : ∀ b o, b ≠ s.heap.objs.size → (h₆.push (lstObj #[] 0)).get? b = some o → h₈.get? b = some o := fun b o hb e => (hs₈.2 b hb).trans e
  have σ₈ : St s.heap s s.heap.objs.size _ [] { s₅ with heap := h₈ } := ⟨σ₇.fr.set hn₈ hs₈, .nil, σ₇.os, σ₇.bare⟩
  -- k = 0
  refine wpAny_execs_cons (wpAny_Assign_Name (wpAny_Constant_int (wpAny_storeName_local rfl σ₈.tk.fr.ns (fun h₉ hn₉ hs₉ => ?_) rfl)))
  have k9 : ∀ b o, b ≠ s.heap.objs.size → h₈.get? b = some o → h₉.get? b = some o := fun b o hb e => (hs₉.2 b hb).trans e
  have σ₉ : St s.heap s s.heap.objs.size _ [] { s₅ with heap := h₉, toks := s₅.toks + 1 } := ⟨σ₈.fr.set hn₉ hs₉, .nil, σ₈.os, σ₈.bare⟩
  have k59 : ∀ b o, b ≠ s.heap.objs.size → s₅.heap.get? b = some o → h₉.get? b = some o := fun b o hb e => k9 _ _ hb (k8 _ _ hb (n₇.ext _ _ (k6 _ _ hb e)))
  have k49 : ∀ b o, b ≠ s.heap.objs.size → h₄.get? b = some o → h₉.get? b = some o := fun b o hb e => k59 _ _ hb (n₅.ext _ _ e)
  have k39 : ∀ b o, b ≠ s.heap.objs.size → s₃.heap.get? b = some o → h₉.get? b = some o := fun b o hb e => k49 _ _ hb (k4 _ _ hb e)
  obtain ⟨ca, hs, tkk, vv, nn, hp5, hdx5, hdxp⟩ := hacc
  have lives : ∀ {b} {o : Obj}, h₄.get? b = some o → b ≠ p ∧ b ≠ dx := fun {b o} e => ⟨fun z => by rw [z] at e; exact absurd (e.symm.trans fp) (by simp), fun z => by rw [z] at e; exact absurd (e.symm.trans fdx) (by simp)⟩
  have livel : ∀ {b} {o : Obj}, h₆.get? b = some o → b ≠ h₆.objs.size := fun {b o} e z => by rw [z, fl] at e; cases e
  obtain ⟨oL4, _, _, hL4, _⟩ := hn₄
  obtain ⟨oL6, _, _, hL6, _⟩ := hn₆
  have pL : p ≠ s.heap.objs.size := fun z => (lives hL4).1 z.symm
  have dL : dx ≠ s.heap.objs.size := fun z => (lives hL4).2 z.symm
  have lL : h₆.objs.size ≠ s.heap.objs.size := fun z => livel hL6 z.symm
  have pl : p ≠ h₆.objs.size := livel (k6 _ _ pL hp5)
  have dl : dx ≠ h₆.objs.size := livel (k6 _ _ dL hdx5)
  obtain ⟨hS4, hU4⟩ := hU h₄ k4
  have T : Stat w mg mb s.heap h₉ s.heap.objs.size p dx h₆.objs.size S (unitsF 0 false x.cps.toList) := by
    refine ⟨G, σ₉.fr.keep, hL, fresh_of_ext σ₄.fr.keep fp, fresh_of_ext σ₆.fr.keep fl, pL, lL, pl, ⟨dL, hdxp, dl⟩, ⟨hs, tkk, vv, nn, k59 _ _ dL hdx5⟩, ⟨hSL, (lives hS4).1, livel (k6 _ _ hSL (n₅.ext _ _ hS4))⟩, acc, c, k49 _ _ hSL hS4, hU4.mono ?_⟩
    rintro v u' ⟨ta, t1, t2, rfl, hne, _, hta⟩
    exact ⟨ta, t1, t2, rfl, ⟨hne, (lives hta).1, livel (k6 _ _ hne (n₅.ext _ _ hta))⟩, k49 _ _ hne hta⟩
  have ss : ∀ tk, SS h₉ s s.heap.objs.size p dx h₆.objs.size _ [] [] { s₅ with heap := h₉, toks := tk } := fun tk =>
    ⟨fun b o _ e => e, hn₉, ⟨ca, [], k59 _ _ pL hp5, trivial⟩, ⟨0, [], k9 _ _ lL (k8 _ _ lL hl₇), trivial⟩, σ₉.os, σ₉.bare⟩
  refine wpAny_execs_cons (wpAny_While ?_)
  refine codeAny_whileLoop (fun n s' => ∃ (k : Nat) (st : List Ent) (lk : List Int) (m : Str → Option Value), SS h₉ s s.heap.objs.size p dx h₆.objs.size m st lk s' ∧ NM x p h₆.objs.size S (k : Int) m ∧ st.length ≤ k ∧ lk.length ≤ k ∧ Good (unitsF 0 false x.cps.toList) k st ∧ srun x.cps.toList (unitsF 0 false x.cps.toList) n k st lk = some (wr, lr)) ?_ N
    ⟨0, [], [], _, ss _, ⟨⟨t, rfl⟩, rfl, rfl, rfl, ⟨_, rfl⟩⟩, Nat.zero_le _, Nat.zero_le _, (fun e he => by cases he), hrun⟩
  clear ss hrun
  rintro n s' ⟨k, st, lk, m, σ, nm, hst, hlk, hg, hr⟩
  cases n with
  | zero => cases hr
  | succ n =>
    have hkl : k < (unitsF 0 false x.cps.toList).length := by
      rcases Nat.lt_or_ge k (unitsF 0 false x.cps.toList).length with z | z
      · exact z
      · rw [srun, List.getElem?_eq_none z] at hr; cases hr
    obtain ⟨tkm, hkm⟩ := nm.k
    obtain ⟨vsu, cu, hu1, hu2⟩ := T.uo
    have hul' : vsu.size = (unitsF 0 false x.cps.toList).length := by have := hu2.len; simpa using this
    refine wpAny_isTrue_Compare1 (ss_name σ hkm (wpAny_Call_NameR (ev_bname (σ.gx T).gc b_len (callWith_builtin1 (ss_name σ nm.units (Calls.call_len_list ⟨_, σ.kept _ _ T.uX hu1, rfl, _, rfl⟩ (by omega) (lt_int (wpAny_truthy_bool ?_))))))))
    rw [decide_eq_true (by omega)]
    simp only [if_true]
    refine turn (N := n) T σ.tk room' nm rfl hx34 hxz hst hlk hg hkl hr ?_ ?_
    · rintro f (rfl | rfl) k' st' lk' s₁₀ m' σ' n' h1 h2 h3 h4
      · exact ⟨n, Nat.lt_succ_self _, k', st', lk', m', σ', n', h1, h2, h3, h4⟩
      · exact ⟨n, Nat.lt_succ_self _, k', st', lk', m', σ', n', h1, h2, h3, h4⟩
    · intro s₁₀ m' r t' σ' hr'
      obtain ⟨cl, vs, hl1, hl2⟩ := σ'.lst
      exact h _ r _ t' cl vs ⟨σ'.base T, σ'.os, σ'.bare⟩ hr' hl1 hl2
end
end Mine

namespace Mine
inductive Tr where
  | leaf (k : Nat)
  | node (cs : List Tr)
def best (up : Bool) : List Nat → Nat
  | [] => 0
  | x :: r => r.foldl (fun a b => if up then max a b else min a b) x
mutual
def val (ws : List Nat) : Bool → Tr → Nat
  | _, .leaf k => ws.getD k 0
  | up, .node cs => best up (vals ws (!up) cs)
def vals (ws : List Nat) : Bool → List Tr → List Nat
  | _, [] => []
  | up, t :: ts => val ws up t :: vals ws up ts
end
mutual
def TreeAt (h : Heap) : Value → Tr → Prop
  | v, .leaf k => ∃ t, v = .int (k : Int) t
  | v, .node cs => ∃ a vs c, v = .ref a ∧ h.get? a = some (lstObj (List.toArray vs) c) ∧ TreesAt h vs cs
def TreesAt (h : Heap) : List Value → List Tr → Prop
  | [], [] => True
  | v :: vs, t :: ts => TreeAt h v t ∧ TreesAt h vs ts
  | _, _ => False
end
mutual
def hgt : Tr → Nat
  | .leaf _ => 0
  | .node cs => hgts cs + 1
def hgts : List Tr → Nat
  | [] => 0
  | t :: ts => max (hgt t) (hgts ts)
end
mutual
def okT (n : Nat) : Tr → Prop
  | .leaf k => k < n
  | .node cs => cs ≠ [] ∧ cs.length ≤ 100 ∧ okTs n cs
def okTs (n : Nat) : List Tr → Prop
  | [] => True
  | t :: ts => okT n t ∧ okTs n ts
end
mutual
theorem TreeAt.keeps {h h' : Heap} (k : Ext h h') : ∀ (t : Tr) (v : Value), TreeAt h v t → TreeAt h' v t
  | .leaf _, _, x => x
  | .node cs, _, x => by
    obtain ⟨a, vs, c, e, g, r⟩ := x
    exact ⟨a, vs, c, e, k _ _ g, TreesAt.keeps k cs vs r⟩
theorem TreesAt.keeps {h h' : Heap} (k : Ext h h') : ∀ (ts : List Tr) (vs : List Value), TreesAt h vs ts → TreesAt h' vs ts
  | [], [], _ => trivial
  | t :: ts, v :: vs, x => ⟨TreeAt.keeps k t v x.1, TreesAt.keeps k ts vs x.2⟩
  | [], _ :: _, x => x.elim
  | _ :: _, [], x => x.elim
end
theorem TreesAt.len {h : Heap} : ∀ (ts : List Tr) (vs : List Value), TreesAt h vs ts → vs.length = ts.length
  | [], [], _ => rfl
  | _ :: ts, _ :: vs, x => by simp [TreesAt.len ts vs x.2]
  | [], _ :: _, x => x.elim
  | _ :: _, [], x => x.elim
theorem TreesAt.at {h : Heap} : ∀ {ts : List Tr} {vs : List Value} {i : Nat} {v : Value}, TreesAt h vs ts → vs[i]? = some v → ∃ t, ts[i]? = some t ∧ TreeAt h v t
  | [], [], _, _, _, e => by simp at e
  | t :: _, _ :: _, 0, _, x, e => by simp at e; subst e; exact ⟨t, rfl, x.1⟩
  | _ :: ts, _ :: vs, i + 1, _, x, e => by simp at e; obtain ⟨t, h1, h2⟩ := TreesAt.at (ts := ts) (vs := vs) x.2 e; exact ⟨t, by simpa using h1, h2⟩
  | [], _ :: _, _, _, x, _ => x.elim
  | _ :: _, [], _, _, x, _ => x.elim
theorem okTs.at {n : Nat} : ∀ {ts : List Tr} {i : Nat} {t : Tr}, okTs n ts → ts[i]? = some t → okT n t
  | [], _, _, _, e => by simp at e
  | _ :: _, 0, _, x, e => by simp at e; subst e; exact x.1
  | _ :: ts, i + 1, _, x, e => by simp at e; exact okTs.at (ts := ts) x.2 e
theorem hgts.at : ∀ {ts : List Tr} {i : Nat} {t : Tr}, ts[i]? = some t → hgt t ≤ hgts ts
  | [], _, _, e => by simp at e
  | _ :: _, 0, _, e => by simp at e; subst e; rw [hgts]; omega
  | _ :: ts, i + 1, _, e => by simp at e; have := hgts.at (ts := ts) e; rw [hgts]; omega
mutual
theorem TreeAt.one {h : Heap} : ∀ (t u : Tr) (v : Value), TreeAt h v t → TreeAt h v u → t = u
  | .leaf k, .leaf j, v, x, y => by
    obtain ⟨t1, rfl⟩ := x
    obtain ⟨t2, e⟩ := y
    simp only [Value.int.injEq] at e
    congr 1; omega
  | .leaf _, .node _, v, x, y => by
    obtain ⟨t1, rfl⟩ := x
    obtain ⟨a, vs, c, e, _⟩ := y
    cases e
  | .node _, .leaf _, v, x, y => by
    obtain ⟨t1, rfl⟩ := y
    obtain ⟨a, vs, c, e, _⟩ := x
    cases e
  | .node cs, .node ds, v, x, y => by
    obtain ⟨a, vs, c, rfl, g, r⟩ := x
    obtain ⟨a', vs', c', e, g', r'⟩ := y
    cases e
    rw [g] at g'
    have : vs.toArray = vs'.toArray := by
      have := congrArg Obj.data (Option.some.inj g')
      simp only [lstObj, Data.seq.injEq] at this
      exact this.1
    have : vs = vs' := by simpa using this
    subst this
    rw [TreesAt.one cs ds vs r r']
theorem TreesAt.one {h : Heap} : ∀ (ts us : List Tr) (vs : List Value), TreesAt h vs ts → TreesAt h vs us → ts = us
  | [], [], [], _, _ => rfl
  | t :: ts, u :: us, v :: vs, x, y => by rw [TreeAt.one t u v x.1 y.1, TreesAt.one ts us vs x.2 y.2]
  | [], _ :: _, [], _, y => y.elim
  | [], _, _ :: _, x, _ => x.elim
  | _ :: _, _, [], x, _ => x.elim
  | _ :: _, [], _ :: _, _, y => y.elim
end
end Mine

namespace Mine
def Kp (s s' : Shared) : Prop := ∃ h' tk, s' = { s with heap := h', toks := tk } ∧ ∀ b o, s.heap.get? b = some o → h'.get? b = some o
theorem Kp.refl (s : Shared) : Kp s s := ⟨s.heap, s.toks, rfl, fun _ _ e => e⟩
theorem Kp.ext {s s' : Shared} (k : Kp s s') : Ext s.heap s'.heap := by obtain ⟨h', tk, rfl, e⟩ := k; exact e
theorem Kp.trans {a b c : Shared} (x : Kp a b) (y : Kp b c) : Kp a c := by
  obtain ⟨h', tk, rfl, e⟩ := x
  obtain ⟨h'', tk', rfl, e'⟩ := y
  exact ⟨h'', tk', rfl, fun b o z => e' _ _ (e _ _ z)⟩
theorem Kp.now {s s' : Shared} (k : Kp s s') : Now s s' := by obtain ⟨h', tk, rfl, e⟩ := k; exact ⟨e, rfl, id⟩
theorem Kp.of {s : Shared} {h' : Heap} {tk : Nat} (e : Ext s.heap h') : Kp s { s with heap := h', toks := tk } := ⟨h', tk, rfl, e⟩

abbrev eW (L : Addr) (pm cd : Value) : Env := callEnvC (Calls.docDef (Str.ofString "_law_worth") (fnArgs 66) (fnBody 66) (fnScope 66) pm cd .none) L 169
section
variable {w : World} {A : Around} {mg mb : Str → Option Value} {E : Value → Shared → Prop} {s : Shared}

theorem ev_bnameE {env : Env} {x : Str} {pos : Pos} {v : Value} {Q : Value → Shared → Prop} (G : GC mg mb s.heap) (hp : (x, v) ∈ bvals) (hg : env.globals = mainGlobals) (hb : env.builtins = builtinsNs) (h : Q v s)
    (hk : env.scope.kind = .function := by rfl) (hx : env.kindOf x = some .globalImplicit := by rfl) (hd : (x == ("__debug__" : Str)) = false := by decide) :
    wpAny (model PR w) A (eval (.Name x pos) env) Q E s :=
  Calls.Name_function_global hk hx (Calls.loadGlobal_builtin (env := env) (by rw [hg]; exact G.g) (G.bt _ hp).1 (by rw [hb]; exact G.b) (G.bt _ hp).2 h) hd
theorem ev_gnameE {env : Env} {x : Str} {pos : Pos} {v : Value} {Q : Value → Shared → Prop} (G : GC mg mb s.heap) (hp : (x, v) ∈ gtab) (hg : env.globals = mainGlobals) (h : Q v s)
    (hk : env.scope.kind = .function := by rfl) (hx : env.kindOf x = some .globalImplicit := by rfl) (hd : (x == ("__debug__" : Str)) = false := by decide) :
    wpAny (model PR w) A (eval (.Name x pos) env) Q E s :=
  Calls.Name_function_global hk hx (Calls.loadGlobal_global (env := env) (by rw [hg]; exact G.g) (G.tab _ hp) h) hd

/-- the list of worths -/
def WorthsAt (h : Heap) (a : Addr) (ws : List Nat) : Prop := ∃ vs c, h.get? a = some (lstObj (List.toArray vs) c) ∧ All2 (fun v (n : Nat) => ∃ t, v = .int (n : Int) t) vs ws
theorem WorthsAt.keeps {h h' : Heap} {a : Addr} {ws : List Nat} (x : WorthsAt h a ws) (k : Ext h h') : WorthsAt h' a ws := let ⟨vs, c, g, r⟩ := x; ⟨vs, c, k _ _ g, r⟩

theorem enter_worth {Q : Value → Shared → Prop} {v wv uv : Value} (G : GC mg mb s.heap) (room : A.depth < recursionLimit)
    (h : ∀ (s₁ : Shared) (m : Str → Option Value) (pm cd : Value), Kp s s₁ → s₁.heap.Ns s.heap.objs.size m → m (Str.ofString "node") = some v → s₁.heap.IsCell (s.heap.objs.size + 1) (some wv) → s₁.heap.IsCell (s.heap.objs.size + 1 + 1) (some uv) →
      wpAny (model PR w) (A.deeper (eW s.heap.objs.size pm cd)) (execs (fnBody 66) (eW s.heap.objs.size pm cd)) (fun f s' => Q (match f with | .ret v => v | _ => .none) s') (fun _ _ => False) s₁) :
    wpAny (model PR w) A (call (.ref 169) [v, wv, uv]) Q E s := by
  obtain ⟨o, pm, cd, ho, hd, hcd⟩ := G.fn _ f_worth
  refine wpAny_call (codeAny_call_cells (fd := Calls.docDef (Str.ofString "_law_worth") (fnArgs 66) (fnBody 66) (fnScope 66) pm cd .none) (body := fnBody 66) (vals := [v, wv, uv]) (binds := [(Str.ofString "node", v), (Str.ofString "worths", wv), (Str.ofString "upper", uv)]) room ho hd G.lim hcd rfl rfl rfl ?_ fun s₁ x => ?_)
  · intro y hy
    simp only [List.mem_cons, List.not_mem_nil, or_false] at hy
    rcases hy with rfl | rfl | rfl
    · exact .inl rfl
    · exact .inr ⟨rfl, rfl⟩
    · exact .inr ⟨rfl, rfl⟩
  · obtain ⟨h₁, tk, rfl, k⟩ := x.done
    refine wpAny_mono (h _ _ pm cd ⟨h₁, tk, rfl, k⟩ x.toInCall.ns rfl (x.cell (Str.ofString "worths") _ rfl) (x.cell (Str.ofString "upper") _ rfl)) (fun f s' z => z) fun _ _ z => z.elim
end
end Mine

namespace Mine
theorem foldl_max : ∀ (l : List Nat) (x : Nat), x ≤ l.foldl max x ∧ (∀ a ∈ l, a ≤ l.foldl max x) ∧ (l.foldl max x = x ∨ l.foldl max x ∈ l)
  | [], x => ⟨Nat.le_refl _, fun _ h => (by cases h), .inl rfl⟩
  | b :: l, x => by
    obtain ⟨h1, h2, h3⟩ := foldl_max l (max x b)
    refine ⟨by simp only [List.foldl_cons]; omega, fun a ha => ?_, ?_⟩
    · simp only [List.foldl_cons]
      rcases List.mem_cons.mp ha with rfl | ha
      · omega
      · exact h2 a ha
    · simp only [List.foldl_cons]
      rcases h3 with h3 | h3
      · rw [h3]
        rcases Nat.le_total x b with z | z
        · right; rw [Nat.max_eq_right z]; exact .head _
        · left; exact Nat.max_eq_left z
      · right; exact .tail _ h3
theorem foldl_min : ∀ (l : List Nat) (x : Nat), l.foldl min x ≤ x ∧ (∀ a ∈ l, l.foldl min x ≤ a) ∧ (l.foldl min x = x ∨ l.foldl min x ∈ l)
  | [], x => ⟨Nat.le_refl _, fun _ h => (by cases h), .inl rfl⟩
  | b :: l, x => by
    obtain ⟨h1, h2, h3⟩ := foldl_min l (min x b)
    refine ⟨by simp only [List.foldl_cons]; omega, fun a ha => ?_, ?_⟩
    · simp only [List.foldl_cons]
      rcases List.mem_cons.mp ha with rfl | ha
      · omega
      · exact h2 a ha
    · simp only [List.foldl_cons]
      rcases h3 with h3 | h3
      · rw [h3]
        rcases Nat.le_total x b with z | z
        · left; exact Nat.min_eq_left z
        · right; rw [Nat.min_eq_right z]; exact .head _
      · right; exact .tail _ h3
theorem best_up {l : List Nat} {M : Nat} (h1 : M ∈ l) (h2 : ∀ a ∈ l, a ≤ M) : best true l = M := by
  cases l with
  | nil => cases h1
  | cons x r =>
    show r.foldl max x = M
    obtain ⟨a, b, c⟩ := foldl_max r x
    have hM : M ≤ r.foldl max x := by
      rcases List.mem_cons.mp h1 with rfl | h
      · exact a
      · exact b _ h
    have : r.foldl max x ≤ M := by
      rcases c with c | c
      · rw [c]; exact h2 _ (.head _)
      · exact h2 _ (.tail _ c)
    omega
theorem best_dn {l : List Nat} {M : Nat} (h1 : M ∈ l) (h2 : ∀ a ∈ l, M ≤ a) : best false l = M := by
  cases l with
  | nil => cases h1
  | cons x r =>
    show r.foldl min x = M
    obtain ⟨a, b, c⟩ := foldl_min r x
    have hM : r.foldl min x ≤ M := by
      rcases List.mem_cons.mp h1 with rfl | h
      · exact a
      · exact b _ h
    have : M ≤ r.foldl min x := by
      rcases c with c | c
      · rw [c]; exact h2 _ (.head _)
      · exact h2 _ (.tail _ c)
    omega
section
variable {w : World} {A : Around} {mg mb : Str → Option Value} {E : Value → Shared → Prop} {s : Shared}
theorem ints_of : ∀ {vs : List Value} {ns : List Nat}, All2 (fun v (n : Nat) => ∃ t, v = .int (n : Int) t) vs ns → IntsAre vs (ns.map (fun (n : Nat) => (n : Int)))
  | [], [], _ => IntsAre.nil
  | _ :: _, _ :: _, ⟨⟨t, e⟩, x⟩ => by subst e; exact IntsAre.cons _ _ (ints_of x)
  | [], _ :: _, x => x.elim
  | _ :: _, [], x => x.elim

theorem max_ok {l : Addr} {vs : List Value} {ns : List Nat} {Q : Value → Shared → Prop} (hh : A.handled = none) (hl : s.heap.IsList l vs.toArray) (hi : All2 (fun v (n : Nat) => ∃ t, v = .int (n : Int) t) vs ns) (hne : ns ≠ [])
    (h : ∀ t s', Kp s s' → Q (.int (best true ns : Nat) t) s') : wpAny (model PR w) A (call (.builtin "max") [.ref l]) Q E s := by
  have hi' := ints_of hi
  obtain ⟨xs, e⟩ := hi'.allInts.items
  have hns : (ns.map (fun (n : Nat) => (n : Int))) = xs.toList.map (·.1) := by rw [← hi'.numsOf, ← nums_intItems, ← e]
  have hsz : 0 < xs.size := by
    have h3 := congrArg List.length hns
    simp at h3
    have : 0 < ns.length := List.length_pos_iff.mpr hne
    omega
  rw [e] at hl
  refine max_intList hh hl hsz fun v h' tk hv hk => ?_
  obtain ⟨t, rfl⟩ := intItems_at hv
  obtain ⟨h1, h2⟩ := argBest_gt (numAt xs) (xs.size - 1)
  have m1 : numAt xs (argBest (fun i j => decide (numAt xs i > numAt xs j)) (xs.size - 1)) ∈ ns.map (fun (n : Nat) => (n : Int)) := by
    rw [hns, numAt_eq]; exact getD_mem (by rw [List.length_map, Array.length_toList]; omega)
  have m2 : ∀ a ∈ ns.map (fun (n : Nat) => (n : Int)), a ≤ numAt xs (argBest (fun i j => decide (numAt xs i > numAt xs j)) (xs.size - 1)) := fun a ha => by
    rw [hns] at ha
    obtain ⟨j, hj, rfl⟩ := mem_getD ha
    rw [List.length_map, Array.length_toList] at hj
    rw [← numAt_eq]; exact h2 j (by omega)
  obtain ⟨M, hM, hMe⟩ := List.mem_map.mp m1
  rw [← hMe] at m2 ⊢
  have : best true ns = M := best_up hM fun a ha => by have := m2 a (List.mem_map_of_mem ha); omega
  rw [← this]
  exact h t _ (Kp.of hk)
theorem min_ok {l : Addr} {vs : List Value} {ns : List Nat} {Q : Value → Shared → Prop} (hh : A.handled = none) (hl : s.heap.IsList l vs.toArray) (hi : All2 (fun v (n : Nat) => ∃ t, v = .int (n : Int) t) vs ns) (hne : ns ≠ [])
    (h : ∀ t s', Kp s s' → Q (.int (best false ns : Nat) t) s') : wpAny (model PR w) A (call (.builtin "min") [.ref l]) Q E s := by
  have hi' := ints_of hi
  obtain ⟨xs, e⟩ := hi'.allInts.items
  have hns : (ns.map (fun (n : Nat) => (n : Int))) = xs.toList.map (·.1) := by rw [← hi'.numsOf, ← nums_intItems, ← e]
  have hsz : 0 < xs.size := by
    have h3 := congrArg List.length hns
    simp at h3
    have : 0 < ns.length := List.length_pos_iff.mpr hne
    omega
  rw [e] at hl
  refine min_intList hh hl hsz fun v h' tk hv hk => ?_
  obtain ⟨t, rfl⟩ := intItems_at hv
  obtain ⟨h1, h2⟩ := argBest_lt (numAt xs) (xs.size - 1)
  have m1 : numAt xs (argBest (fun i j => decide (numAt xs i < numAt xs j)) (xs.size - 1)) ∈ ns.map (fun (n : Nat) => (n : Int)) := by
    rw [hns, numAt_eq]; exact getD_mem (by rw [List.length_map, Array.length_toList]; omega)
  have m2 : ∀ a ∈ ns.map (fun (n : Nat) => (n : Int)), numAt xs (argBest (fun i j => decide (numAt xs i < numAt xs j)) (xs.size - 1)) ≤ a := fun a ha => by
    rw [hns] at ha
    obtain ⟨j, hj, rfl⟩ := mem_getD ha
    rw [List.length_map, Array.length_toList] at hj
    rw [← numAt_eq]; exact h2 j (by omega)
  obtain ⟨M, hM, hMe⟩ := List.mem_map.mp m1
  rw [← hMe] at m2 ⊢
  have : best false ns = M := best_dn hM fun a ha => by have := m2 a (List.mem_map_of_mem ha); omega
  rw [← this]
  exact h t _ (Kp.of hk)
end
end Mine

namespace Mine
def wComp : Expr × Scope × Pos := match (fnBody 66)[1]? with | some (Stmt.Assign (value := .ListComp (elt := e) (scope := sc) (pos := p) ..) ..) => (e, sc, p) | _ => (default, default, default)
theorem pair_vals {h : Heap} {ws : List Nat} {u : Bool} : ∀ {vs ys : List Value} {cs : List Tr}, Paired (fun x y => ∀ t, TreeAt h x t → ∃ tk, y = .int ((val ws u t : Nat) : Int) tk) vs ys → TreesAt h vs cs →
    All2 (fun v (n : Nat) => ∃ t, v = .int (n : Int) t) ys (vals ws u cs)
  | [], [], [], _, _ => trivial
  | v :: vs, y :: ys, t :: cs, .cons a b, x => ⟨a t x.1, pair_vals b x.2⟩
  | [], _, _ :: _, _, x => x.elim
  | _ :: _, _, [], _, x => x.elim
section
variable {w : World} {mg mb : Str → Option Value}
theorem worth_ok {ws : List Nat} (hwz : ws.length ≤ 500) : ∀ (n : Nat) (t : Tr) {A : Around} {E : Value → Shared → Prop} {s : Shared} {v : Value} {wl : Addr} {up : Bool} {Q : Value → Shared → Prop}, hgt t ≤ n → GC mg mb s.heap → Room A (n + 2) → TreeAt s.heap v t → okT ws.length t → WorthsAt s.heap wl ws →
    (∀ tk s', Kp s s' → Q (.int ((val ws up t : Nat) : Int) tk) s') → wpAny (model PR w) A (call (.ref 169) [v, .ref wl, .bool up]) Q E s := by
  intro n
  induction n with
  | zero =>
    intro t A E s v wl up Q hn G room ht hok hw h
    cases t with
    | node cs => rw [hgt] at hn; omega
    | leaf k =>
      obtain ⟨tk0, rfl⟩ := ht
      refine enter_worth G room.lt fun s₁ m pm cd k₁ hn₁ hm hc1 hc2 => ?_
      have G₁ := G.keeps k₁.ext
      obtain ⟨vs, c, hl, hvs⟩ := hw
      refine wpAny_execs_cons (wpAny_If (wpAny_isTrue_value (wpAny_Call_NameR (ev_bnameE G₁ b_isinstance rfl rfl (Calls.callWith_builtin rfl (Calls.evalArgs_plain (spliced_more (wpAny_Name (wpAny_loadName_local rfl rfl hn₁ hm (spliced_more (ev_bnameE G₁ b_int rfl rfl (spliced_none ?_))))))))))))
      refine IsiPair.int_int (wpAny_truthy_bool ?_)
      simp only [if_true]
      have hk : k < ws.length := hok
      obtain ⟨a, ha, t', rfl⟩ := hvs.at (show ws[k]? = some (ws.getD k 0) by simp [List.getD, hk])
      refine wpAny_execs_cons (wpAny_Return_some (sub_any (wpAny_Name (wpAny_loadName_cell rfl rfl rfl hc1 (wpAny_Name (wpAny_loadName_local rfl rfl hn₁ hm ⟨brk_list (k₁.ext _ _ hl) rfl, ?_⟩))))))
      refine wpAny_getItem_list ⟨_, k₁.ext _ _ hl, rfl, _, rfl⟩ (Int.natCast_nonneg k) (by omega) (by simpa using ha) ?_
      exact h t' _ k₁
  | succ n ih =>
    intro t A E s v wl up Q hn G room ht hok hw h
    cases t with
    | leaf k =>
      obtain ⟨tk0, rfl⟩ := ht
      refine enter_worth G room.lt fun s₁ m pm cd k₁ hn₁ hm hc1 hc2 => ?_
      have G₁ := G.keeps k₁.ext
      obtain ⟨vs, c, hl, hvs⟩ := hw
      refine wpAny_execs_cons (wpAny_If (wpAny_isTrue_value (wpAny_Call_NameR (ev_bnameE G₁ b_isinstance rfl rfl (Calls.callWith_builtin rfl (Calls.evalArgs_plain (spliced_more (wpAny_Name (wpAny_loadName_local rfl rfl hn₁ hm (spliced_more (ev_bnameE G₁ b_int rfl rfl (spliced_none ?_))))))))))))
      refine IsiPair.int_int (wpAny_truthy_bool ?_)
      simp only [if_true]
      have hk : k < ws.length := hok
      obtain ⟨a, ha, t', rfl⟩ := hvs.at (show ws[k]? = some (ws.getD k 0) by simp [List.getD, hk])
      refine wpAny_execs_cons (wpAny_Return_some (sub_any (wpAny_Name (wpAny_loadName_cell rfl rfl rfl hc1 (wpAny_Name (wpAny_loadName_local rfl rfl hn₁ hm ⟨brk_list (k₁.ext _ _ hl) rfl, ?_⟩))))))
      refine wpAny_getItem_list ⟨_, k₁.ext _ _ hl, rfl, _, rfl⟩ (Int.natCast_nonneg k) (by omega) (by simpa using ha) ?_
      exact h t' _ k₁
    | node cs =>
      obtain ⟨a, vs, c, rfl, hl, hts⟩ := ht
      refine enter_worth G room.lt fun s₁ m pm cd k₁ hn₁ hm hc1 hc2 => ?_
      have room' := room.deeper (eW s.heap.objs.size pm cd)
      generalize A.deeper (eW s.heap.objs.size pm cd) = A' at room' ⊢
      have G₁ := G.keeps k₁.ext
      have hl₁ := k₁.ext _ _ hl
      refine wpAny_execs_cons (wpAny_If (wpAny_isTrue_value (wpAny_Call_NameR (ev_bnameE G₁ b_isinstance rfl rfl (Calls.callWith_builtin rfl (Calls.evalArgs_plain (spliced_more (wpAny_Name (wpAny_loadName_local rfl rfl hn₁ hm (spliced_more (ev_bnameE G₁ b_int rfl rfl (spliced_none ?_))))))))))))
      refine IsiPair.list_int hl₁ rfl (wpAny_truthy_bool ?_)
      simp only [Bool.false_eq_true, if_false]
      refine wpAny_execs_nil ?_
      obtain ⟨hne, hcl, hokc⟩ := hok
      have hvl := TreesAt.len cs vs hts
      have tk₁ : TreesAt s₁.heap vs cs := TreesAt.keeps k₁.ext cs vs hts
      have hw₁ := hw.keeps k₁.ext
      refine wpAny_execs_cons (wpAny_Assign_ListComp_free (fun _ => true) (fun x y => ∀ t, TreeAt s₁.heap x t → ∃ tk, y = .int ((val ws (!up) t : Nat) : Int) tk) (by rfl) (by rfl) (by decide) rfl (by decide) rfl rfl rfl ?_)
      refine wpAny_Name (wpAny_loadName_local rfl rfl (s := { s₁ with toks := s₁.toks + 1 }) hn₁ hm ?_)
      refine wpAny_pyIter_list (items := vs.toArray) ⟨_, hl₁, rfl, _, rfl⟩ ?_
      have hLI : s.heap.objs.size ≠ s₁.heap.objs.size := Nat.ne_of_lt hn₁.lt
      have haI : a ≠ s₁.heap.objs.size := Nat.ne_of_lt (Heap.lt_size hl₁)
      have e2 : Ext s₁.heap (s₁.heap.push { cls := .type "list_iterator", data := .fields #[.ref a, .int 0 0] }) := fun b o e => Heap.get?_push_of_some _ e
      have nI : ∀ {b o}, s₁.heap.get? b = some o → b ∉ [s₁.heap.objs.size] := fun {b o} e z => by
        rw [List.mem_singleton] at z; rw [z] at e; exact absurd (Heap.lt_size e) (Nat.lt_irrefl _)
      refine ⟨_, _, _, _, _, _, m, rfl, Walks.list room'.hh _ a haI vs.toArray, ?_, ⟨⟨_, Heap.get?_push_size _ rfl, rfl, rfl⟩, ⟨_, e2 _ _ hl₁, rfl, _, rfl⟩⟩, ?_, ?_, hn₁.keeps e2, ⟨?_, ?_⟩, ?_⟩
      · have : (100 : Nat) ≤ sizeLine := Nat.le_of_ble_eq_true rfl
        simp; omega
      · intro b hb
        show b < (s₁.heap.push _).objs.size
        rw [Heap.size_push]
        simp only [List.mem_cons, List.not_mem_nil, or_false] at hb
        rcases hb with rfl | rfl
        · exact Nat.lt_succ_self _
        · exact Nat.lt_succ_of_lt (Heap.lt_size hl₁)
      · show s.heap.objs.size ∉ [s₁.heap.objs.size]
        simpa using hLI
      · intro C i v s₃ m₃ E' _ _ _ _ _ _
        rw [List.forIn_nil]
        exact wpAny_pure ⟨rfl, Kp.refl _⟩
      · intro C i v s₃ m₃ E' hC hP _ hn₃ hm₃ hk₃ _
        have e13 : Ext s₁.heap s₃.heap := fun b o e => hk₃ b o (nI e) (e2 _ _ e)
        have G₃ := G₁.keeps e13
        obtain ⟨of, pmf, cdf, ho, hd, hcd⟩ := G₃.fn _ f_worth
        have hP' : vs[i]? = some v := by simpa using hP
        obtain ⟨t, ht, htv⟩ := TreesAt.at tk₁ hP'
        refine wpAny_Call_NameR (ev_gnameE G₃ t_worth rfl (callWith_def_at ho hd (spliced_more (wpAny_Name (wpAny_loadName_local rfl rfl hn₃ hm₃ (spliced_more (wpAny_Name (wpAny_loadName_cell rfl rfl rfl (hc1.keeps e13) (spliced_more (wpAny_UnaryOp (wpAny_Name (wpAny_loadName_cell rfl rfl rfl (hc2.keeps e13) (not_of (wpAny_truthy_bool (spliced_none ⟨ho, ?_⟩)))))))))))))))
        refine ih t (by have := hgts.at ht; rw [hgt] at hn; omega) G₃ room' (TreeAt.keeps e13 t v htv) (okTs.at hokc ht) (hw₁.keeps e13) fun tk s' k => ⟨fun t' ht' => ⟨tk, ?_⟩, k⟩
        rw [TreeAt.one t' t v ht' htv]
      · intro D h' tk ys vs' hD hlD hplD hlen hP hF hns' hk'
        have hvs' : vs' = vs := by
          refine List.ext_getElem? fun j => ?_
          cases hj : vs'[j]? with
          | some v => have := hP j v hj; simpa using this.symm
          | none =>
            have h1 : vs'.length ≤ j := List.getElem?_eq_none_iff.mp hj
            have h2 : vs.length ≤ j := by simp at hlen; omega
            rw [List.getElem?_eq_none h2]
        subst hvs'
        rw [List.filter_eq_self.mpr (fun _ _ => rfl)] at hF
        have e14 : ∀ b o, b ≠ s.heap.objs.size → s₁.heap.get? b = some o → h'.get? b = some o := fun b o hb e => hk' b o hb (nI e) (e2 _ _ e)
        have G₄ : GC mg mb h' := G.keeps fun b o e => e14 b o (Nat.ne_of_lt (Heap.lt_size e)) (k₁.ext _ _ e)
        have hc2' : h'.IsCell (s.heap.objs.size + 1 + 1) (some (.bool up)) := by obtain ⟨oc, g1, g2⟩ := hc2; exact ⟨oc, e14 _ _ (by omega) g1, g2⟩
        have hvals := pair_vals hF tk₁
        have hne' : vals ws (!up) cs ≠ [] := by
          cases cs with
          | nil => exact absurd rfl hne
          | cons x y => rw [vals]; simp
        obtain ⟨hh1, tk1, rfl, ek1⟩ := k₁
        have kfin : ∀ s' : Shared, Kp { heap := h', gens := s.gens, drawn := s.drawn, toks := tk, os := s.os } s' → Kp s s' := fun s' k => by
          obtain ⟨h5, t5, rfl, e5⟩ := k
          exact ⟨h5, t5, rfl, fun b o e => e5 _ _ (e14 b o (Nat.ne_of_lt (Heap.lt_size e)) (ek1 _ _ e))⟩
        refine wpAny_execs_cons (wpAny_Return_some (wpAny_IfExp (wpAny_isTrue_value (wpAny_Name (wpAny_loadName_cell rfl rfl rfl hc2' (wpAny_truthy_bool ?_))))))
        cases up with
        | true =>
          simp only [if_true]
          refine wpAny_Call_NameR (ev_bnameE G₄ b_max rfl rfl (callWith_builtin1 (wpAny_Name (wpAny_loadName_local rfl rfl hns' rfl (max_ok room'.hh (vs := ys.toList) (by simpa using hlD) hvals hne' fun t' s' k => ?_)))))
          exact h t' s' (kfin s' k)
        | false =>
          simp only [Bool.false_eq_true, if_false]
          refine wpAny_Call_NameR (ev_bnameE G₄ b_min rfl rfl (callWith_builtin1 (wpAny_Name (wpAny_loadName_local rfl rfl hns' rfl (min_ok room'.hh (vs := ys.toList) (by simpa using hlD) hvals hne' fun t' s' k => ?_)))))
          exact h t' s' (kfin s' k)
end
end Mine

namespace Mine
mutual
def due (ws : List Nat) (up : Bool) (lo hi : Nat) : Tr → List Nat
  | .leaf k => if hi ≤ lo then [] else [k]
  | .node cs => if hi ≤ lo then [] else dues ws up lo hi cs
def dues (ws : List Nat) (up : Bool) (lo hi : Nat) : List Tr → List Nat
  | [] => []
  | t :: ts => due ws (!up) lo hi t ++ (if up then dues ws up (max lo (val ws (!up) t)) hi ts else dues ws up lo (min hi (val ws (!up) t)) ts)
end
theorem due_cut {ws : List Nat} {up : Bool} {lo hi : Nat} (t : Tr) (h : hi ≤ lo) : due ws up lo hi t = [] := by cases t <;> simp [due, h]
def NumN (v : Value) (n : Nat) : Prop := ∃ t, v = .int (n : Int) t

structure DS (H : Heap) (s₀ : Shared) (L D I : Addr) (m : Str → Option Value) (vsd : List Value) (s : Shared) : Prop where
  kept : ∀ b o, b ≠ L → b ≠ D → b ≠ I → H.get? b = some o → s.heap.get? b = some o
  ns : s.heap.Ns L m
  dl : ∃ c, s.heap.get? D = some (lstObj vsd.toArray c)
  os : s.os = s₀.os
  bare : AllBare s₀.gens → AllBare s.gens

section
variable {w : World} {A : Around} {mg mb : Str → Option Value} {E : Value → Shared → Prop} {s s₀ : Shared} {H : Heap} {L D I : Addr} {m : Str → Option Value} {vsd : List Value} {cd : Value}
theorem DS.tk {tk : Nat} (σ : DS H s₀ L D I m vsd s) : DS H s₀ L D I m vsd { s with toks := tk } := ⟨σ.kept, σ.ns, σ.dl, σ.os, σ.bare⟩
theorem DS.now {s' : Shared} (σ : DS H s₀ L D I m vsd s) (n : Now s s') : DS H s₀ L D I m vsd s' :=
  ⟨fun b o h1 h2 h3 e => n.ext _ _ (σ.kept b o h1 h2 h3 e), σ.ns.keeps n.ext, let ⟨c, h⟩ := σ.dl; ⟨c, n.ext _ _ h⟩, n.os.trans σ.os, fun z => n.bare (σ.bare z)⟩
theorem ds_name {Q : Value → Shared → Prop} {x : Str} {pos : Pos} {v : Value} (σ : DS H s₀ L D I m vsd s) (hv : m x = some v) (h : Q v s)
    (hl : (envOf (Str.ofString "_law_due") (fnScope 67) L 176 cd).kindOf x = some .local := by rfl) (hd : (x == ("__debug__" : Str)) = false := by decide) : wpAny (model PR w) A (eval (.Name x pos) (envOf (Str.ofString "_law_due") (fnScope 67) L 176 cd)) Q E s :=
  wpAny_Name (wpAny_loadName_local rfl hl σ.ns hv h) hd
theorem ds_store {Q : Unit → Shared → Prop} {x : Str} {v : Value} (hDL : D ≠ L) (σ : DS H s₀ L D I m vsd s) (h : ∀ s', DS H s₀ L D I (upd m x v) vsd s' → (∀ b o, b ≠ L → s.heap.get? b = some o → s'.heap.get? b = some o) → Q () s')
    (hl : (envOf (Str.ofString "_law_due") (fnScope 67) L 176 cd).kindOf x = some .local := by rfl) : wpAny (model PR w) A (storeName (envOf (Str.ofString "_law_due") (fnScope 67) L 176 cd) x v) Q E s := by
  refine wpAny_storeName_local hl σ.ns (fun h' hn' hs' => ?_) rfl
  have k : ∀ b o, b ≠ L → s.heap.get? b = some o → h'.get? b = some o := fun b o hb e => (hs'.2 b hb).trans e
  exact h _ ⟨fun b o h1 h2 h3 e => k _ _ h1 (σ.kept b o h1 h2 h3 e), hn', let ⟨c, h⟩ := σ.dl; ⟨c, k _ _ hDL h⟩, σ.os, σ.bare⟩ k

theorem lext_ok {Q : Value → Shared → Prop} {l l2 : Addr} {vs vs2 : List Value} {c c2 : Nat} (hl : s.heap.get? l = some (lstObj vs.toArray c)) (hl2 : s.heap.get? l2 = some (lstObj vs2.toArray c2)) (hz : vs.length ≤ 2000) (hz2 : vs2.length ≤ 2000)
    (h : ∀ s' c', But l s s' → s'.heap.get? l = some (lstObj (vs ++ vs2).toArray c') → Q .none s') : wpAny (model PR w) A (call (.builtin "list.extend") [.ref l, .ref l2]) Q E s := by
  refine wpAny_call_entry PySem.F.slot_list_extend ⟨_, hl, rfl⟩ PySem.F.entry_list_extend ?_ (PySem.F.args_list_extend_2 _ _)
  have hs4 : (4000 : Nat) ≤ sizeLine := Nat.le_of_ble_eq_true rfl
  unfold Builtin.«list.extend»
  refine wpAny_bind (wpAny_of_eq (a := ((.ref l : Value), (.ref l2 : Value))) (by rfl) ?_)
  dsimp only
  unfold Builtin.List.listExtendWith
  refine wpAny_bind (wpAny_typeOf (v := .ref l2) (T := "list") ⟨_, hl2, rfl⟩ ?_)
  have h2 : (Value.type "list" == Value.type "list") = true := by decide
  simp only [h2, Bool.or_true, Bool.true_or, if_true]
  unfold Builtin.List.listItems
  refine wpAny_bind (wpAny_bind (wpAny_seqItems hl2 rfl (wpAny_pure ?_)))
  refine wpAny_bind (wpAny_bind (wpAny_seqItems hl rfl (wpAny_pure ?_)))
  have htl : Builtin.List.listTooLong (vs.toArray.size + vs2.toArray.size) = false := by
    unfold Builtin.List.listTooLong
    simp
    omega
  rw [htl, Bool.and_false]
  simp only [Bool.false_eq_true, if_false]
  refine wpAny_bind ?_
  refine wpAny_updateSeq (hz := by simp; omega) hl rfl ?_ (by simp; omega)
  refine wpAny_pure ⟨_, rfl, ?_⟩
  have e := Heap.get?_update_self (Obj.mapSeq (· ++ vs2.toArray)) hl rfl
  rw [show Obj.mapSeq (· ++ vs2.toArray) (lstObj vs.toArray c) = lstObj (vs ++ vs2).toArray _ by unfold Obj.mapSeq; simp; rfl] at e
  exact h _ _ ⟨fun b o hb e => (Heap.get?_update_other _ _ (Ne.symm hb)).trans e, rfl, id⟩ e
end
end Mine

namespace Mine
theorem All2.app {α β : Type} {R : α → β → Prop} : ∀ {as cs : List α} {bs ds : List β}, All2 R as bs → All2 R cs ds → All2 R (as ++ cs) (bs ++ ds)
  | [], _, [], _, _, y => y
  | _ :: _, _, _ :: _, _, x, y => ⟨x.1, All2.app x.2 y⟩
  | [], _, _ :: _, _, x, _ => x.elim
  | _ :: _, _, [], _, x, _ => x.elim
mutual
def leaves : Tr → Nat
  | .leaf _ => 1
  | .node cs => leavess cs
def leavess : List Tr → Nat
  | [] => 0
  | t :: ts => leaves t + leavess ts
end
mutual
theorem due_len {ws : List Nat} : ∀ (t : Tr) (up : Bool) (lo hi : Nat), (due ws up lo hi t).length ≤ leaves t
  | .leaf k, up, lo, hi => by simp only [due, leaves]; split <;> simp
  | .node cs, up, lo, hi => by
    simp only [due, leaves]; split
    · simp
    · exact dues_len cs up lo hi
theorem dues_len {ws : List Nat} : ∀ (ts : List Tr) (up : Bool) (lo hi : Nat), (dues ws up lo hi ts).length ≤ leavess ts
  | [], up, lo, hi => by simp [dues, leavess]
  | t :: ts, up, lo, hi => by
    rw [dues, leavess, List.length_append]
    have := due_len (ws := ws) t (!up) lo hi
    split
    · have := dues_len (ws := ws) ts up (max lo (val ws (!up) t)) hi; omega
    · have := dues_len (ws := ws) ts up lo (min hi (val ws (!up) t)); omega
end
theorem leavess.at : ∀ {ts : List Tr} {i : Nat} {t : Tr}, ts[i]? = some t → leaves t ≤ leavess ts
  | [], _, _, e => by simp at e
  | _ :: _, 0, _, e => by simp at e; subst e; rw [leavess]; omega
  | _ :: ts, i + 1, _, e => by simp at e; have := leavess.at (ts := ts) e; rw [leavess]; omega

section
variable {w : World} {mg mb : Str → Option Value}
theorem max_i {A : Around} {E : Value → Shared → Prop} {s : Shared} {a b : Nat} {t u : Tok} {Q : Value → Shared → Prop} (hh : A.handled = none) (h : ∀ t' s', Now s s' → Q (.int ((max a b : Nat) : Int) t') s') : wpAny (model PR w) A (call (.builtin "max") [.int (a : Int) t, .int (b : Int) u]) Q E s := by
  refine max_two_ints hh fun h' tk k => ?_
  by_cases hba : (b : Int) > (a : Int)
  · rw [if_pos hba]
    have := h u { s with heap := h', toks := tk } ⟨k, rfl, id⟩
    rw [Nat.max_eq_right (by omega)] at this
    exact this
  · rw [if_neg hba]
    have := h t { s with heap := h', toks := tk } ⟨k, rfl, id⟩
    rw [Nat.max_eq_left (by omega)] at this
    exact this
theorem min_i {A : Around} {E : Value → Shared → Prop} {s : Shared} {a b : Nat} {t u : Tok} {Q : Value → Shared → Prop} (hh : A.handled = none) (h : ∀ t' s', Now s s' → Q (.int ((min a b : Nat) : Int) t') s') : wpAny (model PR w) A (call (.builtin "min") [.int (a : Int) t, .int (b : Int) u]) Q E s := by
  refine min_two_ints hh fun h' tk k => ?_
  by_cases hba : (b : Int) < (a : Int)
  · rw [if_pos hba]
    have := h u { s with heap := h', toks := tk } ⟨k, rfl, id⟩
    rw [Nat.min_eq_right (by omega)] at this
    exact this
  · rw [if_neg hba]
    have := h t { s with heap := h', toks := tk } ⟨k, rfl, id⟩
    rw [Nat.min_eq_left (by omega)] at this
    exact this

theorem due_ok {ws : List Nat} (hwz : ws.length ≤ 500) : ∀ (n : Nat) (t : Tr) {A : Around} {E : Value → Shared → Prop} {s : Shared} {v : Value} {wl : Addr} {up : Bool} {lo hi : Nat} {tl th : Tok} {Q : Value → Shared → Prop}, hgt t < n → leaves t ≤ 500 → GC mg mb s.heap → Room A (n + 2) → TreeAt s.heap v t → okT ws.length t → WorthsAt s.heap wl ws →
    (∀ D s' c vs, Now s s' → s.heap.get? D = none → s'.heap.get? D = some (lstObj (List.toArray vs) c) → All2 NumN vs (due ws up lo hi t) → Q (.ref D) s') → wpAny (model PR w) A (call (.ref 176) [v, .ref wl, .bool up, .int (lo : Int) tl, .int (hi : Int) th]) Q E s := by
  intro n
  induction n with
  | zero =>
    intro t A E s v wl up lo hi tl th Q hn
    exact absurd hn (Nat.not_lt_zero _)
  | succ n ih =>
    intro t A E s v wl up lo hi tl th Q hn hlv G room ht hok hw h
    refine enter (name := Str.ofString "_law_due") (i := 67) (binds := [(Str.ofString "node", v), (Str.ofString "worths", .ref wl), (Str.ofString "upper", .bool up), (Str.ofString "low", .int (lo : Int) tl), (Str.ofString "high", .int (hi : Int) th)]) G f_due room.lt (fun _ _ => rfl) (locs rfl) fun h₁ cd F => ?_
    have room' := room.deeper (envOf (Str.ofString "_law_due") (fnScope 67) s.heap.objs.size 176 cd)
    generalize A.deeper (envOf (Str.ofString "_law_due") (fnScope 67) s.heap.objs.size 176 cd) = A' at room' ⊢
    have G₁ := G.keeps F.keep
    refine wpAny_execs_cons (wpAny_If (wpAny_isTrue_Compare1 (ld F rfl (ld F rfl (ge_int (wpAny_truthy_bool ?_))))))
    by_cases hcut : hi ≤ lo
    · rw [decide_eq_true (by omega : (lo : Int) ≥ (hi : Int))]
      simp only [if_true]
      refine wpAny_execs_cons (wpAny_Return_some (wpAny_List (spliced_none ⟨Nat.zero_le _, ?_⟩)))
      have hf : h₁.get? h₁.objs.size = none := get_fresh (Nat.le_refl _)
      refine h _ _ 0 [] ⟨fun b o e => Heap.get?_push_of_some _ (F.keep _ _ e), rfl, id⟩ (fresh_of_ext F.keep hf) (Heap.get?_push_size _ rfl) ?_
      rw [due_cut t hcut]
      trivial
    rw [decide_eq_false (by omega : ¬ (lo : Int) ≥ (hi : Int))]
    simp only [Bool.false_eq_true, if_false]
    refine wpAny_execs_nil ?_
    refine wpAny_execs_cons (wpAny_If (wpAny_isTrue_value (wpAny_Call_NameR (ev_bname G₁ b_isinstance (Calls.callWith_builtin rfl (Calls.evalArgs_plain (spliced_more (ld F rfl (spliced_more (ev_bname G₁ b_int (spliced_none ?_)))))))))))
    cases t with
    | leaf k =>
      obtain ⟨tk0, rfl⟩ := ht
      refine IsiPair.int_int (wpAny_truthy_bool ?_)
      simp only [if_true]
      refine wpAny_execs_cons (wpAny_Return_some (wpAny_List (spliced_more (ld F rfl (spliced_none ⟨Nat.le_of_ble_eq_true rfl, ?_⟩)))))
      have hf : h₁.get? h₁.objs.size = none := get_fresh (Nat.le_refl _)
      refine h _ _ 0 [.int (k : Int) tk0] ⟨fun b o e => Heap.get?_push_of_some _ (F.keep _ _ e), rfl, id⟩ (fresh_of_ext F.keep hf) (Heap.get?_push_size _ rfl) ?_
      rw [due, if_neg hcut]
      exact ⟨⟨tk0, rfl⟩, trivial⟩
    | node cs =>
      obtain ⟨a, vs, c, rfl, hl, hts⟩ := ht
      obtain ⟨hne, hcl, hokc⟩ := hok
      refine IsiPair.list_int (F.keep _ _ hl) rfl (wpAny_truthy_bool ?_)
      simp only [Bool.false_eq_true, if_false]
      refine wpAny_execs_nil ?_
      have hf : h₁.get? h₁.objs.size = none := get_fresh (Nat.le_refl _)
      -- due = []
      refine wpAny_execs_cons (wpAny_Assign_Name (wpAny_List (spliced_none ⟨Nat.zero_le _, ?_⟩)))
      have e2 : Ext h₁ (h₁.push (lstObj #[] 0)) := fun b o e => Heap.get?_push_of_some _ e
      have hD2 : (h₁.push (lstObj #[] 0)).get? h₁.objs.size = some (lstObj #[] 0) := Heap.get?_push_size _ rfl
      have hDL : h₁.objs.size ≠ s.heap.objs.size := Ne.symm (Nat.ne_of_lt F.ns.lt)
      refine wpAny_storeName_local rfl (F.ns.keeps e2) (fun h₃ hn₃ hs₃ => ?_) rfl
      have k3 : ∀ b o, b ≠ s.heap.objs.size → (h₁.push (lstObj #[] 0)).get? b = some o → h₃.get? b = some o := fun b o hb e => (hs₃.2 b hb).trans e
      have haL : a ≠ s.heap.objs.size := Nat.ne_of_lt (Heap.lt_size hl)
      have B3 : Ext s.heap h₃ := fun b o e => k3 _ _ (Nat.ne_of_lt (Heap.lt_size e)) (e2 _ _ (F.keep _ _ e))
      have hl₃ := B3 _ _ hl
      have haD : a ≠ h₁.objs.size := Nat.ne_of_lt (Heap.lt_size (F.keep _ _ hl))
      have hD3 : h₃.get? h₁.objs.size = some (lstObj #[] 0) := k3 _ _ hDL hD2
      have fD : s.heap.get? h₁.objs.size = none := fresh_of_ext F.keep hf
      -- for part in node
      refine wpAny_execs_cons (wpAny_For (wpAny_Name (wpAny_loadName_local rfl rfl hn₃ (v := .ref a) rfl ?_)))
      refine wpAny_pyIter_list (items := vs.toArray) ⟨_, hl₃, rfl, _, rfl⟩ ?_
      have fI : h₃.get? h₃.objs.size = none := get_fresh (Nat.le_refl _)
      have fIB : s.heap.get? h₃.objs.size = none := fresh_of_ext B3 fI
      have hIL : h₃.objs.size ≠ s.heap.objs.size := Ne.symm (Nat.ne_of_lt hn₃.lt)
      have hID : h₃.objs.size ≠ h₁.objs.size := fun z => by rw [z] at fI; rw [fI] at hD3; cases hD3
      have haI : a ≠ h₃.objs.size := Nat.ne_of_lt (Heap.lt_size hl₃)
      have e4 : Ext h₃ (h₃.push { cls := .type "list_iterator", data := .fields #[.ref a, .int 0 0] }) := fun b o e => Heap.get?_push_of_some _ e
      have hI4 : (h₃.push { cls := .type "list_iterator", data := .fields #[.ref a, .int 0 0] }).IsListIter h₃.objs.size a 0 := ⟨_, Heap.get?_push_size _ rfl, rfl, rfl⟩
      generalize hH : h₃.push { cls := .type "list_iterator", data := .fields #[.ref a, .int 0 0] } = H at e4 hI4
      have σ0 : ∀ tk, DS H s s.heap.objs.size h₁.objs.size h₃.objs.size _ [] { s with heap := H, toks := tk } := fun tk =>
        ⟨fun b o _ _ _ e => e, hn₃.keeps e4, ⟨0, e4 _ _ hD3⟩, rfl, id⟩
      have BH : ∀ {m vsd s'}, DS H s s.heap.objs.size h₁.objs.size h₃.objs.size m vsd s' → Ext s.heap s'.heap := fun {m vsd s'} σ b o e =>
        σ.kept b o (Nat.ne_of_lt (Heap.lt_size e)) (fun z => by rw [z, fD] at e; cases e) (fun z => by rw [z, fIB] at e; cases e) (e4 _ _ (B3 _ _ e))
      have hd0 : ([] : List Nat).length + (dues ws up lo hi (cs.drop 0)).length ≤ 500 := by
        have := dues_len (ws := ws) cs up lo hi
        rw [leaves] at hlv
        simp
        omega
      refine codeAny_forLoop_any (fun n s' => ∃ (i lo' hi' : Nat) (m : Str → Option Value) (vsd : List Value) (done : List Nat), n + i = vs.length + 1 ∧ i ≤ vs.length ∧ DS H s s.heap.objs.size h₁.objs.size h₃.objs.size m vsd s' ∧ s'.heap.IsListIter h₃.objs.size a i ∧
          m (Str.ofString "worths") = some (.ref wl) ∧ m (Str.ofString "upper") = some (.bool up) ∧ m (Str.ofString "due") = some (.ref h₁.objs.size) ∧ (∃ t, m (Str.ofString "low") = some (.int (lo' : Int) t)) ∧ (∃ t, m (Str.ofString "high") = some (.int (hi' : Int) t)) ∧
          All2 NumN vsd done ∧ done.length + (dues ws up lo' hi' (cs.drop i)).length ≤ 500 ∧ done ++ dues ws up lo' hi' (cs.drop i) = dues ws up lo hi cs) ?_ (vs.length + 1)
        ⟨0, lo, hi, _, [], [], by omega, by omega, σ0 _, hI4, rfl, rfl, rfl, ⟨_, rfl⟩, ⟨_, rfl⟩, trivial, hd0, rfl⟩
      clear σ0 hI4
      rintro n' s' ⟨i, lo', hi', m, vsd, done, hni, hil, σ, hit, m1, m2, m3, ⟨t1, m4⟩, ⟨t2, m5⟩, hvd, hdl, hdone⟩
      have hls := BH σ _ _ hl
      by_cases hiv : i < vs.length
      · obtain ⟨part, hpart⟩ : ∃ part, vs[i]? = some part := ⟨_, List.getElem?_eq_getElem hiv⟩
        obtain ⟨ct, hct, hpt⟩ := TreesAt.at hts hpart
        have hdrop : cs.drop i = ct :: cs.drop (i + 1) := by
          obtain ⟨hlt, e⟩ := List.getElem?_eq_some_iff.mp hct
          rw [List.drop_eq_getElem_cons hlt, e]
        refine wpAny_pyNext_list_item hit ⟨_, hls, rfl, _, rfl⟩ (x := part) (by simpa using hpart) fun h₅ hit₅ hs₅ => ?_
        have k5 : ∀ b o, b ≠ h₃.objs.size → s'.heap.get? b = some o → h₅.get? b = some o := fun b o hb e => (hs₅.2 b hb).trans e
        have σ₅ : DS H s s.heap.objs.size h₁.objs.size h₃.objs.size m vsd { s' with heap := h₅ } := ⟨fun b o x1 x2 x3 e => k5 _ _ x3 (σ.kept b o x1 x2 x3 e), σ.ns.at' fun o e => k5 _ _ (Ne.symm hIL) e, let ⟨c, e⟩ := σ.dl; ⟨c, k5 _ _ (Ne.symm hID) e⟩, σ.os, σ.bare⟩
        refine wpAny_pure ?_
        refine wpAny_assign_Name (ds_store hDL σ₅ fun s₆ σ₆ k6 => ?_)
        have hit₆ : s₆.heap.IsListIter h₃.objs.size a (i + 1) := let ⟨o, q, r⟩ := hit₅; ⟨o, k6 _ _ hIL q, r⟩
        have n1 : (upd m (Str.ofString "part") part) (Str.ofString "worths") = some (.ref wl) := (upd_ne (by decide)).trans m1
        have n2 : (upd m (Str.ofString "part") part) (Str.ofString "upper") = some (.bool up) := (upd_ne (by decide)).trans m2
        have n3 : (upd m (Str.ofString "part") part) (Str.ofString "due") = some (.ref h₁.objs.size) := (upd_ne (by decide)).trans m3
        have n4 : (upd m (Str.ofString "part") part) (Str.ofString "low") = some (.int (lo' : Int) t1) := (upd_ne (by decide)).trans m4
        have n5 : (upd m (Str.ofString "part") part) (Str.ofString "high") = some (.int (hi' : Int) t2) := (upd_ne (by decide)).trans m5
        have n6 : (upd m (Str.ofString "part") part) (Str.ofString "part") = some part := upd_same
        generalize upd m (Str.ofString "part") part = M at σ₆ n1 n2 n3 n4 n5 n6
        clear σ σ₅ hit hit₅ m1 m2 m3 m4 m5 k5 k6
        have hchl : leaves ct ≤ 500 := by have := leavess.at hct; rw [leaves] at hlv; omega
        have hchh : hgt ct < n := by have := hgts.at hct; rw [hgt] at hn; omega
        rw [hdrop, dues] at hdl hdone
        -- due.extend(_law_due(part, worths, not upper, low, high))
        obtain ⟨cD, hDo⟩ := σ₆.dl
        have G₆ := G.keeps (BH σ₆)
        refine wpAny_execs_cons (wpAny_Expr_any (MethodCall_ (ds_name σ₆ n3 (getMethod_builtin ⟨_, hDo, rfl⟩ PySem.F.plainAttrs_list PySem.F.slot_list_extend PySem.F.type_list_extend (fun a e => by cases e; exact ⟨_, hDo, rfl⟩) ?_))))
        refine Calls.callWith_builtin rfl (Calls.evalArgs_plain (spliced_more (ev_call G₆ t_due f_due (spliced_more (ds_name σ₆ n6 (spliced_more (ds_name σ₆ n1 (spliced_more (wpAny_UnaryOp (ds_name σ₆ n2 (not_of (wpAny_truthy_bool (spliced_more (ds_name σ₆ n4 (spliced_more (ds_name σ₆ n5 (spliced_none ⟨fun _ _ e => e, ?_⟩)))))))))))))))))
        refine ih ct hchh hchl G₆ room' (TreeAt.keeps (BH σ₆) _ _ hpt) (okTs.at hokc hct) (hw.keeps (BH σ₆)) fun D2 s₇ c2 vs2 nw7 fD2 hD2' hv2 => spliced_none ?_
        have σ₇ := σ₆.now nw7
        have hit₇ : s₇.heap.IsListIter h₃.objs.size a (i + 1) := let ⟨o, q, r⟩ := hit₆; ⟨o, nw7.ext _ _ q, r⟩
        have hdl2 := hv2.len
        have hvl2 := hvd.len
        simp only [List.length_append] at hdl
        refine lext_ok (nw7.ext _ _ hDo) hD2' (by omega) (by omega) fun s₈ c8 b8 hD8 => ?_
        have σ₈ : DS H s s.heap.objs.size h₁.objs.size h₃.objs.size M (vsd ++ vs2) s₈ := ⟨fun b o x1 x2 x3 e => b8.heap _ _ x2 (σ₇.kept b o x1 x2 x3 e), σ₇.ns.at' fun o e => b8.heap _ _ (Ne.symm hDL) e, ⟨c8, hD8⟩, b8.os.trans σ₇.os, fun z => b8.bare (σ₇.bare z)⟩
        have hit₈ : s₈.heap.IsListIter h₃.objs.size a (i + 1) := let ⟨o, q, r⟩ := hit₇; ⟨o, b8.heap _ _ hID q, r⟩
        have hv8 : All2 NumN (vsd ++ vs2) (done ++ due ws (!up) lo' hi' ct) := hvd.app hv2
        clear σ₆ σ₇ hit₆ hit₇ hDo G₆
        -- worth = _law_worth(part, worths, not upper)
        have G₈ := G.keeps (BH σ₈)
        refine wpAny_execs_cons (wpAny_Assign_Name (ev_call G₈ t_worth f_worth (spliced_more (ds_name σ₈ n6 (spliced_more (ds_name σ₈ n1 (spliced_more (wpAny_UnaryOp (ds_name σ₈ n2 (not_of (wpAny_truthy_bool (spliced_none ⟨fun _ _ e => e, ?_⟩))))))))))))
        refine worth_ok hwz n ct (by omega) G₈ room' (TreeAt.keeps (BH σ₈) _ _ hpt) (okTs.at hokc hct) (hw.keeps (BH σ₈)) fun tkw s₉ k9 => ?_
        have σ₉ := σ₈.now k9.now
        have hit₉ : s₉.heap.IsListIter h₃.objs.size a (i + 1) := let ⟨o, q, r⟩ := hit₈; ⟨o, k9.ext _ _ q, r⟩
        refine ds_store hDL σ₉ fun s₁₀ σ₁₀ k10 => ?_
        have hit₁₀ : s₁₀.heap.IsListIter h₃.objs.size a (i + 1) := let ⟨o, q, r⟩ := hit₉; ⟨o, k10 _ _ hIL q, r⟩
        clear σ₈ σ₉ hit₈ hit₉ G₈
        refine wpAny_execs_cons (wpAny_If (wpAny_isTrue_value (ds_name σ₁₀ ((upd_ne (by decide)).trans n2) (wpAny_truthy_bool ?_))))
        cases up with
        | true =>
          simp only [if_true] at hdl hdone ⊢
          refine wpAny_execs_cons (wpAny_Assign_Name (wpAny_Call_NameR (ev_bname (G.keeps (BH σ₁₀)) b_max (Calls.callWith_builtin rfl (Calls.evalArgs_plain (spliced_more (ds_name σ₁₀ ((upd_ne (by decide)).trans n4) (spliced_more (ds_name σ₁₀ upd_same (spliced_none ?_))))))))))
          refine max_i room'.hh fun t3 s₁₁ n11 => ds_store hDL (σ₁₀.now n11) fun s₁₂ σ₁₂ k12 => ?_
          refine wpAny_execs_nil (wpAny_execs_nil ?_)
          refine ⟨n' - 1, by omega, i + 1, max lo' (val ws (!true) ct), hi', _, _, _, by omega, by omega, σ₁₂, ⟨_, k12 _ _ hIL (n11.ext _ _ hit₁₀.choose_spec.1), hit₁₀.choose_spec.2⟩, (upd_ne (by decide)).trans ((upd_ne (by decide)).trans n1), (upd_ne (by decide)).trans ((upd_ne (by decide)).trans n2), (upd_ne (by decide)).trans ((upd_ne (by decide)).trans n3), ⟨_, upd_same⟩, ⟨_, (upd_ne (by decide)).trans ((upd_ne (by decide)).trans n5)⟩, hv8, ?_, ?_⟩
          · rw [List.length_append]; omega
          · rw [List.append_assoc]; exact hdone
        | false =>
          simp only [Bool.false_eq_true, if_false] at hdl hdone ⊢
          refine wpAny_execs_cons (wpAny_Assign_Name (wpAny_Call_NameR (ev_bname (G.keeps (BH σ₁₀)) b_min (Calls.callWith_builtin rfl (Calls.evalArgs_plain (spliced_more (ds_name σ₁₀ ((upd_ne (by decide)).trans n5) (spliced_more (ds_name σ₁₀ upd_same (spliced_none ?_))))))))))
          refine min_i room'.hh fun t3 s₁₁ n11 => ds_store hDL (σ₁₀.now n11) fun s₁₂ σ₁₂ k12 => ?_
          refine wpAny_execs_nil (wpAny_execs_nil ?_)
          refine ⟨n' - 1, by omega, i + 1, lo', min hi' (val ws (!false) ct), _, _, _, by omega, by omega, σ₁₂, ⟨_, k12 _ _ hIL (n11.ext _ _ hit₁₀.choose_spec.1), hit₁₀.choose_spec.2⟩, (upd_ne (by decide)).trans ((upd_ne (by decide)).trans n1), (upd_ne (by decide)).trans ((upd_ne (by decide)).trans n2), (upd_ne (by decide)).trans ((upd_ne (by decide)).trans n3), ⟨_, (upd_ne (by decide)).trans ((upd_ne (by decide)).trans n4)⟩, ⟨_, upd_same⟩, hv8, ?_, ?_⟩
          · rw [List.length_append]; omega
          · rw [List.append_assoc]; exact hdone
      · have hnone : vs.toArray[i]? = none := by simp; omega
        refine wpAny_pyNext_list_end room'.hh hit ⟨_, hls, rfl, _, rfl⟩ hnone fun h₅ hx₅ => ?_
        have k5 : ∀ b o, b ≠ h₃.objs.size → s'.heap.get? b = some o → h₅.get? b = some o := fun b o hb e => hx₅ b o hb e
        have σ₅ : DS H s s.heap.objs.size h₁.objs.size h₃.objs.size m vsd { s' with heap := h₅ } := ⟨fun b o x1 x2 x3 e => k5 _ _ x3 (σ.kept b o x1 x2 x3 e), σ.ns.at' fun o e => k5 _ _ (Ne.symm hIL) e, let ⟨c, e⟩ := σ.dl; ⟨c, k5 _ _ (Ne.symm hID) e⟩, σ.os, σ.bare⟩
        refine wpAny_execs_nil ?_
        refine wpAny_execs_cons (wpAny_Return_some (ds_name σ₅ m3 ?_))
        obtain ⟨cD, hDo⟩ := σ₅.dl
        have hlen := TreesAt.len cs vs hts
        refine h _ _ cD vsd ⟨BH σ₅, σ₅.os, σ₅.bare⟩ fD hDo ?_
        rw [List.drop_eq_nil_iff.mpr (by omega), dues, List.append_nil] at hdone
        rw [due, if_neg hcut, ← hdone]
        exact hvd
end
end Mine

namespace Mine
mutual
def TreeX (h : Heap) (ok : Addr → Prop) : Value → Tr → Prop
  | v, .leaf k => ∃ t, v = .int (k : Int) t
  | v, .node cs => ∃ a vs c, v = .ref a ∧ ok a ∧ h.get? a = some (lstObj (List.toArray vs) c) ∧ TreesX h ok vs cs
def TreesX (h : Heap) (ok : Addr → Prop) : List Value → List Tr → Prop
  | [], [] => True
  | v :: vs, t :: ts => TreeX h ok v t ∧ TreesX h ok vs ts
  | _, _ => False
end
mutual
theorem TreeX.move {h h' : Heap} {ok ok' : Addr → Prop} (k : ∀ b o, ok b → h.get? b = some o → ok' b ∧ h'.get? b = some o) : ∀ (t : Tr) (v : Value), TreeX h ok v t → TreeX h' ok' v t
  | .leaf _, _, x => x
  | .node cs, _, x => by
    obtain ⟨a, vs, c, e, o, g, r⟩ := x
    exact ⟨a, vs, c, e, (k _ _ o g).1, (k _ _ o g).2, TreesX.move k cs vs r⟩
theorem TreesX.move {h h' : Heap} {ok ok' : Addr → Prop} (k : ∀ b o, ok b → h.get? b = some o → ok' b ∧ h'.get? b = some o) : ∀ (ts : List Tr) (vs : List Value), TreesX h ok vs ts → TreesX h' ok' vs ts
  | [], [], _ => trivial
  | t :: ts, v :: vs, x => ⟨TreeX.move k t v x.1, TreesX.move k ts vs x.2⟩
  | [], _ :: _, x => x.elim
  | _ :: _, [], x => x.elim
end
mutual
theorem TreeX.at {h : Heap} {ok : Addr → Prop} : ∀ (t : Tr) (v : Value), TreeX h ok v t → TreeAt h v t
  | .leaf _, _, x => x
  | .node cs, _, x => by
    obtain ⟨a, vs, c, e, o, g, r⟩ := x
    exact ⟨a, vs, c, e, g, TreesX.at cs vs r⟩
theorem TreesX.at {h : Heap} {ok : Addr → Prop} : ∀ (ts : List Tr) (vs : List Value), TreesX h ok vs ts → TreesAt h vs ts
  | [], [], _ => trivial
  | t :: ts, v :: vs, x => ⟨TreeX.at t v x.1, TreesX.at ts vs x.2⟩
  | [], _ :: _, x => x.elim
  | _ :: _, [], x => x.elim
end
theorem TreesX.snoc {h : Heap} {ok : Addr → Prop} {v : Value} {t : Tr} (y : TreeX h ok v t) : ∀ (ts : List Tr) (vs : List Value), TreesX h ok vs ts → TreesX h ok (vs ++ [v]) (ts ++ [t])
  | [], [], _ => ⟨y, trivial⟩
  | _ :: ts, _ :: vs, x => ⟨x.1, TreesX.snoc y ts vs x.2⟩
  | [], _ :: _, x => x.elim
  | _ :: _, [], x => x.elim

/-- the open nodes, innermost first; tail: what stands behind the closed ones in the innermost -/
def OpenAt (h : Heap) (ok : Addr → Prop) (tail : List Value) : List Addr → List (List Tr) → Prop
  | [], [] => True
  | a :: as, c :: cs => (∃ vs k, h.get? a = some (lstObj (vs ++ tail).toArray k) ∧ TreesX h ok vs c) ∧ OpenAt h ok [.ref a] as cs
  | _, _ => False
theorem OpenAt.move {h h' : Heap} {ok ok' : Addr → Prop} (k : ∀ b o, ok b → h.get? b = some o → ok' b ∧ h'.get? b = some o) : ∀ {as : List Addr} {tail : List Value} {cs : List (List Tr)}, (∀ b ∈ as, ∀ o, h.get? b = some o → h'.get? b = some o) → OpenAt h ok tail as cs → OpenAt h' ok' tail as cs
  | [], _, [], _, _ => trivial
  | a :: as, _, c :: cs, k2, ⟨⟨vs, n, g, r⟩, x⟩ => ⟨⟨vs, n, k2 a (.head _) _ g, TreesX.move k c vs r⟩, OpenAt.move k (fun b hb => k2 b (.tail _ hb)) x⟩
  | [], _, _ :: _, _, x => x.elim
  | _ :: _, _, [], _, x => x.elim
theorem OpenAt.len {h : Heap} {ok : Addr → Prop} : ∀ {as : List Addr} {tail : List Value} {cs : List (List Tr)}, OpenAt h ok tail as cs → as.length = cs.length
  | [], _, [], _ => rfl
  | _ :: as, _, _ :: cs, x => by simp [OpenAt.len x.2]
  | [], _, _ :: _, x => x.elim
  | _ :: _, _, [], x => x.elim

structure DB where
  L : Addr
  C : Addr
  P : Addr
  Z : Addr
  I : Addr
def DB.ok (d : DB) (ads : List Addr) (b : Addr) : Prop := b ≠ d.L ∧ b ≠ d.C ∧ b ≠ d.P ∧ b ≠ d.Z ∧ b ≠ d.I ∧ b ∉ ads
structure DB.Apart (d : DB) (B : Heap) : Prop where
  CL : d.C ≠ d.L
  PL : d.P ≠ d.L
  ZL : d.Z ≠ d.L
  IL : d.I ≠ d.L
  PC : d.P ≠ d.C
  ZC : d.Z ≠ d.C
  IC : d.I ≠ d.C
  ZP : d.Z ≠ d.P
  IP : d.I ≠ d.P
  IZ : d.I ≠ d.Z
  bL : B.get? d.L = none
  bC : B.get? d.C = none
  bP : B.get? d.P = none
  bZ : B.get? d.Z = none
  bI : B.get? d.I = none

structure DW (s₀ : Shared) (d : DB) (m : Str → Option Value) (ex : List Addr) (tail : List Value) (ads : List Addr) (op : List (List Tr)) (pls : List Nat) (s : Shared) : Prop where
  base : Ext s₀.heap s.heap
  ns : s.heap.Ns d.L m
  ch : ∃ c, s.heap.get? d.C = some (lstObj (ads.reverse.map Value.ref).toArray c)
  pl : ∃ c vs, s.heap.get? d.P = some (lstObj (List.toArray vs) c) ∧ All2 NumN vs pls
  op : OpenAt s.heap (d.ok (ex ++ ads)) tail ads op
  nd : (ex ++ ads).Nodup
  ap : ∀ b ∈ ex ++ ads, b ≠ d.L ∧ b ≠ d.C ∧ b ≠ d.P ∧ b ≠ d.Z ∧ b ≠ d.I ∧ s₀.heap.get? b = none
  os : s.os = s₀.os
  bare : AllBare s₀.gens → AllBare s.gens
section
variable {s₀ s s' : Shared} {d : DB} {m m' : Str → Option Value} {ex : List Addr} {tail : List Value} {ads : List Addr} {op : List (List Tr)} {pls : List Nat}
/-- all but the frame and the two iterators stay -/
theorem DW.keep (T : d.Apart s₀.heap) (σ : DW s₀ d m ex tail ads op pls s) (k : ∀ b o, b ≠ d.L → b ≠ d.Z → b ≠ d.I → s.heap.get? b = some o → s'.heap.get? b = some o) (hn : s'.heap.Ns d.L m') (ho : s'.os = s.os) (hb : AllBare s.gens → AllBare s'.gens) :
    DW s₀ d m' ex tail ads op pls s' :=
  ⟨fun b o e => k b o (fun z => (by rw [z, T.bL] at e; cases e)) (fun z => (by rw [z, T.bZ] at e; cases e)) (fun z => (by rw [z, T.bI] at e; cases e)) (σ.base b o e), hn,
    let ⟨c, h⟩ := σ.ch; ⟨c, k _ _ T.CL (Ne.symm T.ZC) (Ne.symm T.IC) h⟩, let ⟨c, vs, h, r⟩ := σ.pl; ⟨c, vs, k _ _ T.PL (Ne.symm T.ZP) (Ne.symm T.IP) h, r⟩,
    σ.op.move (fun b o h e => ⟨h, k _ _ h.1 h.2.2.2.1 h.2.2.2.2.1 e⟩) fun b hb o e => let a := σ.ap b (List.mem_append_right _ hb); k _ _ a.1 a.2.2.2.1 a.2.2.2.2.1 e, σ.nd, σ.ap, ho.trans σ.os, fun z => hb (σ.bare z)⟩
theorem DW.now (T : d.Apart s₀.heap) (σ : DW s₀ d m ex tail ads op pls s) (n : Now s s') : DW s₀ d m ex tail ads op pls s' := σ.keep T (fun b o _ _ _ e => n.ext b o e) (σ.ns.keeps n.ext) n.os n.bare
theorem DW.tk {tk : Nat} (σ : DW s₀ d m ex tail ads op pls s) : DW s₀ d m ex tail ads op pls { s with toks := tk } := ⟨σ.base, σ.ns, σ.ch, σ.pl, σ.op, σ.nd, σ.ap, σ.os, σ.bare⟩
/-- places gets one more -/
theorem DW.place {vs : List Value} {c n : Nat} {t : Tok} (T : d.Apart s₀.heap) (σ : DW s₀ d m ex tail ads op pls s) (b : But d.P s s') (hl : s'.heap.get? d.P = some (lstObj (vs ++ [Value.int (n : Int) t]).toArray c)) (hv : All2 NumN vs pls) : DW s₀ d m ex tail ads op (pls ++ [n]) s' :=
  ⟨fun b' o e => b.heap _ _ (fun z => (by rw [z, T.bP] at e; cases e)) (σ.base b' o e), σ.ns.at' fun o e => b.heap _ _ (Ne.symm T.PL) e, let ⟨c, h⟩ := σ.ch; ⟨c, b.heap _ _ (Ne.symm T.PC) h⟩, ⟨c, _, hl, hv.snoc ⟨t, rfl⟩⟩,
    σ.op.move (fun b' o h e => ⟨h, b.heap _ _ h.2.2.1 e⟩) fun b' hb o e => b.heap _ _ (σ.ap b' (List.mem_append_right _ hb)).2.2.1 e, σ.nd, σ.ap, b.os.trans σ.os, fun z => b.bare (σ.bare z)⟩
/-- a new list object, held apart -/
theorem DW.fresh {n : Addr} (T : d.Apart s₀.heap) (σ : DW s₀ d m [] tail ads op pls s) (n' : Now s s') (hf : s.heap.get? n = none) (hZ : n ≠ d.Z) (hI : n ≠ d.I) : DW s₀ d m [n] tail ads op pls s' := by
  have hb : ∀ {b o}, s.heap.get? b = some o → b ≠ n := fun e z => by rw [z, hf] at e; cases e
  obtain ⟨oL, es, ep, hL, rL⟩ := σ.ns
  obtain ⟨cC, hC⟩ := σ.ch
  obtain ⟨cP, vP, hP, rP⟩ := σ.pl
  have live : ∀ {as : List Addr} {tl : List Value} {cs : List (List Tr)} {ok : Addr → Prop}, OpenAt s.heap ok tl as cs → ∀ b ∈ as, ∃ o, s.heap.get? b = some o := by
    intro as
    induction as with
    | nil => intro _ _ _ _ b hb; cases hb
    | cons a as ih =>
      intro tl cs ok x b hb
      cases cs with
      | nil => exact x.elim
      | cons c cs =>
        rcases List.mem_cons.mp hb with rfl | hb
        · obtain ⟨⟨vs, k, g, _⟩, _⟩ := x; exact ⟨_, g⟩
        · exact ih x.2 b hb
  have hna : n ∉ ads := fun hm => by obtain ⟨o, e⟩ := live σ.op n hm; rw [hf] at e; cases e
  have mv : ∀ b o, d.ok ([] ++ ads) b → s.heap.get? b = some o → d.ok ([n] ++ ads) b ∧ s'.heap.get? b = some o := fun b o h e =>
    ⟨⟨h.1, h.2.1, h.2.2.1, h.2.2.2.1, h.2.2.2.2.1, fun hm => (List.mem_cons.mp hm).elim (fun z => hb e z) fun z => h.2.2.2.2.2 z⟩, n'.ext _ _ e⟩
  have apn : ∀ b ∈ [n] ++ ads, b ≠ d.L ∧ b ≠ d.C ∧ b ≠ d.P ∧ b ≠ d.Z ∧ b ≠ d.I ∧ s₀.heap.get? b = none := by
    intro b hm
    rcases List.mem_cons.mp hm with z | z
    · rw [z]
      exact ⟨Ne.symm (hb hL), Ne.symm (hb hC), Ne.symm (hb hP), hZ, hI, fresh_of_ext σ.base hf⟩
    · exact σ.ap b z
  exact ⟨fun b o e => n'.ext _ _ (σ.base b o e), ⟨oL, es, ep, n'.ext _ _ hL, rL⟩, ⟨cC, n'.ext _ _ hC⟩, ⟨cP, vP, n'.ext _ _ hP, rP⟩,
    σ.op.move mv (fun b _ o e => n'.ext _ _ e), List.nodup_cons.mpr ⟨hna, σ.nd⟩, apn, n'.os.trans σ.os, fun z => n'.bare (σ.bare z)⟩
/-- the innermost node gets one more -/
theorem DW.inner {a : Addr} {as : List Addr} {c : List Tr} {cs : List (List Tr)} {tail' : List Value} {c' : List Tr} (T : d.Apart s₀.heap) (σ : DW s₀ d m ex tail (a :: as) (c :: cs) pls s) (b : But a s s')
    (h : ∀ vs, TreesX s'.heap (d.ok (ex ++ a :: as)) vs c → (∃ k, s.heap.get? a = some (lstObj (vs ++ tail).toArray k)) → ∃ vs' k', s'.heap.get? a = some (lstObj (vs' ++ tail').toArray k') ∧ TreesX s'.heap (d.ok (ex ++ a :: as)) vs' c') : DW s₀ d m ex tail' (a :: as) (c' :: cs) pls s' := by
  have aa := σ.ap a (List.mem_append_right _ (.head _))
  obtain ⟨⟨vs, k, g, r⟩, x⟩ := σ.op
  have hoka : ∀ b', d.ok (ex ++ a :: as) b' → b' ≠ a := fun b' h z => h.2.2.2.2.2 (List.mem_append_right _ (by rw [z]; exact .head _))
  have has : ∀ b' ∈ as, b' ≠ a := fun b' hb z => by
    have := (List.nodup_append.mp σ.nd).2.1
    rw [List.nodup_cons] at this
    exact this.1 (z ▸ hb)
  obtain ⟨vs', k', g', r'⟩ := h vs (TreesX.move (fun b' o ho e => ⟨ho, b.heap _ _ (hoka _ ho) e⟩) c vs r) ⟨k, g⟩
  exact ⟨fun b' o e => b.heap _ _ (fun z => (by rw [z, aa.2.2.2.2.2] at e; cases e)) (σ.base b' o e), σ.ns.at' fun o e => b.heap _ _ (Ne.symm aa.1) e, let ⟨c, h⟩ := σ.ch; ⟨c, b.heap _ _ (Ne.symm aa.2.1) h⟩, let ⟨c, vs, h, r⟩ := σ.pl; ⟨c, vs, b.heap _ _ (Ne.symm aa.2.2.1) h, r⟩,
    ⟨⟨vs', k', g', r'⟩, OpenAt.move (fun b' o ho e => ⟨ho, b.heap _ _ (hoka _ ho) e⟩) (fun b' hb o e => b.heap _ _ (has b' hb) e) x⟩, σ.nd, σ.ap, b.os.trans σ.os, fun z => b.bare (σ.bare z)⟩
/-- the new node goes onto the chain -/
theorem DW.opened {n : Addr} {a : Addr} {as : List Addr} {cc : Nat} (T : d.Apart s₀.heap) (σ : DW s₀ d m [n] [.ref n] (a :: as) op pls s) (b : But d.C s s') (hn : ∃ k, s'.heap.get? n = some (lstObj #[] k)) (hC : s'.heap.get? d.C = some (lstObj ((a :: as).reverse.map Value.ref ++ [Value.ref n]).toArray cc)) :
    DW s₀ d m [] [] (n :: a :: as) ([] :: op) pls s' := by
  obtain ⟨k, hn⟩ := hn
  refine ⟨fun b' o e => b.heap _ _ (fun z => (by rw [z, T.bC] at e; cases e)) (σ.base b' o e), σ.ns.at' fun o e => b.heap _ _ (Ne.symm T.CL) e, ⟨cc, by rw [List.reverse_cons, List.map_append]; exact hC⟩, let ⟨c, vs, h, r⟩ := σ.pl; ⟨c, vs, b.heap _ _ T.PC h, r⟩,
    ⟨⟨[], k, hn, trivial⟩, σ.op.move (fun b' o h e => ⟨h, b.heap _ _ h.2.1 e⟩) fun b' hb o e => b.heap _ _ (σ.ap b' (List.mem_append_right _ hb)).2.1 e⟩, σ.nd, σ.ap, b.os.trans σ.os, fun z => b.bare (σ.bare z)⟩
/-- the innermost node leaves the chain -/
theorem DW.closed {a a1 : Addr} {as : List Addr} {c p : List Tr} {r : List (List Tr)} {cc : Nat} (T : d.Apart s₀.heap) (σ : DW s₀ d m [] [] (a :: a1 :: as) (c :: p :: r) pls s) (b : But d.C s s') (hC : s'.heap.get? d.C = some (lstObj ((a1 :: as).reverse.map Value.ref).toArray cc)) :
    DW s₀ d m [] [] (a1 :: as) ((p ++ [.node c]) :: r) pls s' := by
  have aa := σ.ap a (.head _)
  have nd := List.nodup_cons.mp σ.nd
  have mono : ∀ b', d.ok (a :: a1 :: as) b' → d.ok (a1 :: as) b' := fun b' h => ⟨h.1, h.2.1, h.2.2.1, h.2.2.2.1, h.2.2.2.2.1, fun z => h.2.2.2.2.2 (.tail _ z)⟩
  have kk : ∀ b' o, d.ok (a :: a1 :: as) b' → s.heap.get? b' = some o → d.ok (a1 :: as) b' ∧ s'.heap.get? b' = some o := fun b' o h e => ⟨mono _ h, b.heap _ _ h.2.1 e⟩
  obtain ⟨⟨vs, k, g, tr⟩, ⟨vs1, k1, g1, tr1⟩, x⟩ := σ.op
  rw [List.append_nil] at g
  refine ⟨fun b' o e => b.heap _ _ (fun z => (by rw [z, T.bC] at e; cases e)) (σ.base b' o e), σ.ns.at' fun o e => b.heap _ _ (Ne.symm T.CL) e, ⟨cc, hC⟩, let ⟨c, vs, h, r⟩ := σ.pl; ⟨c, vs, b.heap _ _ T.PC h, r⟩,
    ⟨⟨vs1 ++ [.ref a], k1, by rw [List.append_nil]; exact b.heap _ _ (σ.ap a1 (.tail _ (.head _))).2.1 g1, TreesX.snoc ?_ p vs1 (TreesX.move kk p vs1 tr1)⟩, OpenAt.move kk (fun b' hb o e => b.heap _ _ (σ.ap b' (.tail _ (.tail _ hb))).2.1 e) x⟩, nd.2, fun b' hb => σ.ap b' (.tail _ hb), b.os.trans σ.os, fun z => b.bare (σ.bare z)⟩
  exact ⟨a, vs, k, rfl, ⟨aa.1, aa.2.1, aa.2.2.1, aa.2.2.2.1, aa.2.2.2.2.1, nd.1⟩, b.heap _ _ aa.2.1 g, TreesX.move kk c vs tr⟩
end
end Mine

namespace Mine
def signs24 : List Nat := [40, 41, 91, 93, 58, 44, 59, 43, 45, 42, 47, 124, 38, 60, 62, 61, 46, 37, 123, 125, 126, 94, 64, 33]
structure Dr where
  op : List (List Tr)
  tx : List Nat
  pl : List Nat
def dOpen (v : Nat) (d : Dr) : Dr := if v % 4 = 0 ∧ d.op.length < 4 then { d with op := [] :: d.op, tx := d.tx ++ [40] } else d
def sgn (v : Nat) : Nat := signs24.getD (v / 4 % 24) 0
def esc (v : Nat) : Bool := (decide (sgn v ∈ [40, 41])) || !(v / 96 % 2 == 0)
def piece (v : Nat) : List Nat := if esc v then [92, sgn v] else [sgn v]
def addLeaf (k : Nat) : List (List Tr) → List (List Tr)
  | [] => []
  | c :: r => (c ++ [.leaf k]) :: r
def dLeaf (k v : Nat) (d : Dr) : Dr := { op := addLeaf k d.op, tx := d.tx ++ piece v, pl := d.pl ++ [(d.tx ++ piece v).length - 1] }
def dClose (v : Nat) (d : Dr) : Dr := match d.op with
  | c :: p :: r => if v % 4 = 3 then { d with op := (p ++ [.node c]) :: r, tx := d.tx ++ [41] } else d
  | _ => d
def dstep (k v : Nat) (d : Dr) : Dr := dClose v (dLeaf k v (dOpen v d))
def drun : Nat → List Nat → Dr → Dr
  | _, [], d => d
  | k, v :: vs, d => drun (k + 1) vs (dstep k v d)

def dBody : List Stmt := match (fnBody 65)[4]? with | some (Stmt.For (body := b) ..) => b | _ => []
abbrev eD (L : Addr) (cd : Value) : Env := envOf (Str.ofString "_law_drawn") (fnScope 65) L 164 cd
structure ND (C P Z0 : Addr) (x : Str) (m : Str → Option Value) : Prop where
  tree : m (Str.ofString "tree") = some (.ref Z0)
  chain : m (Str.ofString "chain") = some (.ref C)
  places : m (Str.ofString "places") = some (.ref P)
  text : ∃ t, m (Str.ofString "text") = some (.str x t)
theorem ND.upd {C P Z0 : Addr} {x : Str} {m : Str → Option Value} (n : ND C P Z0 x m) {y : Str} {v : Value} (h1 : Str.ofString "tree" ≠ y) (h2 : Str.ofString "chain" ≠ y) (h3 : Str.ofString "places" ≠ y) (h4 : Str.ofString "text" ≠ y) : ND C P Z0 x (Mine.upd m y v) :=
  ⟨(upd_ne h1).trans n.tree, (upd_ne h2).trans n.chain, (upd_ne h3).trans n.places, let ⟨t, e⟩ := n.text; ⟨t, (upd_ne h4).trans e⟩⟩
theorem ND.updt {C P Z0 : Addr} {x x' : Str} {t : Tok} {m : Str → Option Value} (n : ND C P Z0 x m) : ND C P Z0 x' (Mine.upd m (Str.ofString "text") (.str x' t)) :=
  ⟨(upd_ne (by decide)).trans n.tree, (upd_ne (by decide)).trans n.chain, (upd_ne (by decide)).trans n.places, ⟨t, upd_same⟩⟩

section
variable {w : World} {A : Around} {mg mb : Str → Option Value} {E : Value → Shared → Prop} {s₀ s : Shared} {d : DB} {m : Str → Option Value} {ex : List Addr} {tail : List Value} {ads : List Addr} {op : List (List Tr)} {pls : List Nat} {cd : Value}
theorem dw_name {Q : Value → Shared → Prop} {x : Str} {pos : Pos} {v : Value} (σ : DW s₀ d m ex tail ads op pls s) (hv : m x = some v) (h : Q v s)
    (hl : (envOf (Str.ofString "_law_drawn") (fnScope 65) d.L 164 cd).kindOf x = some .local := by rfl) (hd : (x == ("__debug__" : Str)) = false := by decide) : wpAny (model PR w) A (eval (.Name x pos) (envOf (Str.ofString "_law_drawn") (fnScope 65) d.L 164 cd)) Q E s :=
  wpAny_Name (wpAny_loadName_local rfl hl σ.ns hv h) hd
theorem dw_st {Q : Unit → Shared → Prop} {x : Str} {v : Value} (T : d.Apart s₀.heap) (σ : DW s₀ d m ex tail ads op pls s) (h : ∀ s', DW s₀ d (upd m x v) ex tail ads op pls s' → (∀ b o, b ≠ d.L → s.heap.get? b = some o → s'.heap.get? b = some o) → Q () s')
    (hl : (envOf (Str.ofString "_law_drawn") (fnScope 65) d.L 164 cd).kindOf x = some .local := by rfl) : wpAny (model PR w) A (storeName (envOf (Str.ofString "_law_drawn") (fnScope 65) d.L 164 cd) x v) Q E s := by
  refine wpAny_storeName_local hl σ.ns (fun h' hn' hs' => ?_) rfl
  have k : ∀ b o, b ≠ d.L → s.heap.get? b = some o → h'.get? b = some o := fun b o hb e => (hs'.2 b hb).trans e
  exact h _ (σ.keep T (fun b o h1 _ _ e => k b o h1 e) hn' rfl id) k
theorem dw_last {a : Addr} {as : List Addr} {p1 p2 p3 p4 : Pos} {k1 : Nat} {Q : Value → Shared → Prop} {Z0 : Addr} {x : Str} (σ : DW s₀ d m ex tail (a :: as) op pls s) (n : ND d.C d.P Z0 x m) (hz : as.length < 100) (h : ∀ tk, Q (.ref a) { s with toks := tk }) :
    wpAny (model PR w) A (eval (.Subscript (.Name (Str.ofString "chain") p1) (.UnaryOp .USub (.Constant (.int 1) k1 p2) p3) p4) (envOf (Str.ofString "_law_drawn") (fnScope 65) d.L 164 cd)) Q E s := by
  obtain ⟨c, hc⟩ := σ.ch
  refine sub_any (dw_name σ n.chain (wpAny_UnaryOp (wpAny_Constant_int (neg_int ⟨brk_list hc rfl, ?_⟩))))
  refine wpAny_getItem_list_neg ⟨_, hc, rfl, _, rfl⟩ (by decide) (by simp; omega) (by decide) (x := .ref a) ?_ (h _)
  have e : ((-1 : Int) + (((a :: as).reverse.map Value.ref).toArray.size : Int)).toNat = as.length := by simp; omega
  rw [e]
  simp
theorem fmod_n (v b : Nat) (hb : 0 < b) : ((v : Int).fmod (b : Int)) = ((v % b : Nat) : Int) := by
  rw [Int.fmod_eq_emod_of_nonneg _ (by omega)]; omega
theorem fdiv_n (v b : Nat) : ((v : Int).fdiv (b : Int)) = ((v / b : Nat) : Int) := by
  rw [Int.fdiv_eq_ediv_of_nonneg _ (by omega)]; omega
end
end Mine

namespace Mine
structure Its (d : DB) (s s' : Shared) : Prop where
  z : ∀ o, s.heap.get? d.Z = some o → s'.heap.get? d.Z = some o
  i : ∀ o, s.heap.get? d.I = some o → s'.heap.get? d.I = some o
theorem Its.refl (d : DB) (s : Shared) : Its d s s := ⟨fun _ e => e, fun _ e => e⟩
theorem Its.trans {d : DB} {a b c : Shared} (x : Its d a b) (y : Its d b c) : Its d a c := ⟨fun o e => y.z o (x.z o e), fun o e => y.i o (x.i o e)⟩
theorem Its.but {d : DB} {s s' : Shared} {p : Addr} (b : But p s s') (h1 : d.Z ≠ p) (h2 : d.I ≠ p) : Its d s s' := ⟨fun o e => b.heap _ _ h1 e, fun o e => b.heap _ _ h2 e⟩
theorem Its.ext {d : DB} {s s' : Shared} (k : Ext s.heap s'.heap) : Its d s s' := ⟨fun o e => k _ _ e, fun o e => k _ _ e⟩
theorem Its.butL {d : DB} {s s' : Shared} (h1 : d.Z ≠ d.L) (h2 : d.I ≠ d.L) (k : ∀ b o, b ≠ d.L → s.heap.get? b = some o → s'.heap.get? b = some o) : Its d s s' := ⟨fun o e => k _ _ h1 e, fun o e => k _ _ h2 e⟩

theorem TreesX.len {h : Heap} {ok : Addr → Prop} : ∀ (ts : List Tr) (vs : List Value), TreesX h ok vs ts → vs.length = ts.length
  | [], [], _ => rfl
  | _ :: ts, _ :: vs, x => by simp [TreesX.len ts vs x.2]
  | [], _ :: _, x => x.elim
  | _ :: _, [], x => x.elim
section
variable {w : World} {A : Around} {mg mb : Str → Option Value} {E : Value → Shared → Prop} {s₀ s : Shared} {d : DB} {m : Str → Option Value} {ads : List Addr} {op : List (List Tr)} {pls : List Nat} {cd : Value}

theorem d_open {Z0 : Addr} {x : Str} {v k : Nat} {tv tk : Tok} {Q : Flow → Shared → Prop} (G : GX w mg mb s₀.heap) (T : d.Apart s₀.heap) (σ : DW s₀ d m [] [] ads op pls s) (n : ND d.C d.P Z0 x m) (hz : ads.length ≤ 4) (hne : ads ≠ []) (hxz : x.cps.size ≤ 500) (hcl : ∀ c ∈ op, c.length ≤ 1000)
    (hZn : s.heap.get? d.Z ≠ none) (hIn : s.heap.get? d.I ≠ none)
    (hv : m (Str.ofString "v") = some (.int (v : Int) tv)) (hk : m (Str.ofString "k") = some (.int (k : Int) tk))
    (hc : ∀ s' m' ads' x', DW s₀ d m' [] [] ads' (dOpen v ⟨op, x.cps.toList, pls⟩).op pls s' → ND d.C d.P Z0 x' m' → x'.cps.toList = (dOpen v ⟨op, x.cps.toList, pls⟩).tx → ads' ≠ [] → ads'.length ≤ 4 → ads'.getLast? = ads.getLast? → m' (Str.ofString "v") = some (.int (v : Int) tv) → m' (Str.ofString "k") = some (.int (k : Int) tk) → Its d s s' →
      wpAny (model PR w) A (execs (dBody.drop 1) (eD d.L cd)) Q E s') :
    wpAny (model PR w) A (execs dBody (eD d.L cd)) Q E s := by
  have hlen := σ.op.len
  obtain ⟨cC, hC⟩ := σ.ch
  refine wpAny_execs_cons (wpAny_If (wpAny_isTrue_BoolOp (wpAny_allTrue_And_cons (wpAny_isTrue_Compare1 (wpAny_BinOp (dw_name σ hv (wpAny_Constant_int (mod_int' (by decide) (wpAny_Constant_int (eq_int (wpAny_truthy_bool ?_)))))))))))
  have e4 : (((v : Int).fmod 4 == 0) : Bool) = decide (v % 4 = 0) := by
    rw [show (v : Int).fmod 4 = ((v % 4 : Nat) : Int) from fmod_n v 4 (by decide), Bool.eq_iff_iff]; simp; omega
  rw [e4]
  have skip : ¬ (v % 4 = 0 ∧ op.length < 4) → ∀ s₁, DW s₀ d m [] [] ads op pls s₁ → Its d s s₁ → wpAny (model PR w) A (execs (dBody.drop 1) (eD d.L cd)) Q E s₁ := fun hno s₁ σ₁ it =>
    hc s₁ m ads x (by rw [dOpen, if_neg hno]; exact σ₁) n (by rw [dOpen, if_neg hno]) hne hz rfl hv hk it
  by_cases h4 : v % 4 = 0
  case neg =>
    rw [decide_eq_false h4]
    simp only [Bool.false_eq_true, if_false]
    exact wpAny_execs_nil (skip (fun z => h4 z.1) _ σ.tk.tk.tk ⟨fun _ e => e, fun _ e => e⟩)
  rw [decide_eq_true h4]
  simp only [if_true]
  refine wpAny_allTrue_And_cons (wpAny_isTrue_Compare1 (wpAny_Call_NameR (ev_bname (G.gc.keeps σ.base) b_len (callWith_builtin1 (dw_name σ.tk.tk.tk n.chain (Calls.call_len_list ⟨_, hC, rfl, _, rfl⟩ (by simp; omega) (wpAny_Constant_int (lt_int (wpAny_truthy_bool ?_)))))))))
  have el : (decide (((((ads.reverse.map Value.ref).toArray.size : Nat) : Int)) < 4)) = decide (op.length < 4) := decide_eq_decide.mpr (by simp; omega)
  rw [el]
  by_cases ho : op.length < 4
  case neg =>
    rw [decide_eq_false ho]
    simp only [Bool.false_eq_true, if_false]
    exact wpAny_execs_nil (skip (fun z => ho z.2) _ ⟨σ.base, σ.ns, σ.ch, σ.pl, σ.op, σ.nd, σ.ap, σ.os, σ.bare⟩ ⟨fun _ e => e, fun _ e => e⟩)
  rw [decide_eq_true ho]
  simp only [if_true]
  refine wpAny_allTrue_And_nil ?_
  simp only [if_true]
  -- node = []
  cases ads with
  | nil => exact absurd rfl hne
  | cons a as =>
  cases op with
  | nil => simp at hlen
  | cons c cs =>
  refine wpAny_execs_cons (wpAny_Assign_Name (wpAny_List (spliced_none ⟨Nat.zero_le _, ?_⟩)))
  have hf : s.heap.get? s.heap.objs.size = none := get_fresh (Nat.le_refl _)
  have hnZ : s.heap.objs.size ≠ d.Z := fun z => hZn (z ▸ hf)
  have hnI : s.heap.objs.size ≠ d.I := fun z => hIn (z ▸ hf)
  have nw : ∀ tk, Now s { s with heap := s.heap.push (lstObj #[] 0), toks := tk } := fun tk => ⟨fun b o e => Heap.get?_push_of_some _ e, rfl, id⟩
  have hn1 : (s.heap.push (lstObj #[] 0)).get? s.heap.objs.size = some (lstObj #[] 0) := Heap.get?_push_size _ rfl
  have σ₁ := fun tk => σ.fresh T (nw tk) hf hnZ hnI
  have aN := (σ₁ 0).ap s.heap.objs.size (.head _)
  have nd := (σ₁ 0).nd
  refine dw_st T (σ₁ _) fun s₂ σ₂ k2 => ?_
  have hn2 := k2 _ _ aN.1 hn1
  have it2 : Its d s s₂ := (Its.ext (nw 0).ext).trans ⟨fun o e => k2 _ _ T.ZL e, fun o e => k2 _ _ T.IL e⟩
  have n₂ := n.upd (y := Str.ofString "node") (v := .ref s.heap.objs.size) (by decide) (by decide) (by decide) (by decide)
  have v2 := (upd_ne (m := m) (x := Str.ofString "node") (y := Str.ofString "v") (v := .ref s.heap.objs.size) (by decide)).trans hv
  have k2' := (upd_ne (m := m) (x := Str.ofString "node") (y := Str.ofString "k") (v := .ref s.heap.objs.size) (by decide)).trans hk
  have w2 := upd_same (m := m) (x := Str.ofString "node") (v := .ref s.heap.objs.size)
  generalize upd m (Str.ofString "node") (.ref s.heap.objs.size) = M at σ₂ n₂ v2 k2' w2
  have hna : a ≠ s.heap.objs.size := fun z => by
    have := (List.nodup_cons.mp nd).1
    rw [← z] at this
    exact this (.head _)
  -- chain[-1].append(node)
  obtain ⟨⟨vs, kk, ga, tr⟩, rest⟩ := σ₂.op
  refine wpAny_execs_cons (wpAny_Expr_any (MethodCall_ (dw_last σ₂ n₂ (by simp at hz; omega) fun tk3 => getMethod_builtin (s := { s₂ with toks := tk3 }) ⟨_, ga, rfl⟩ PySem.F.plainAttrs_list PySem.F.slot_list_append ty_app (fun a e => by cases e; exact ⟨_, ga, rfl⟩) ?_)))
  have σ₂' := σ₂.tk (tk := tk3)
  refine Calls.callWith_builtin rfl (Calls.evalArgs_plain (spliced_more (dw_name σ₂' w2 (spliced_none ?_))))
  have htl := TreesX.len c vs tr
  have hcl0 := hcl c (.head _)
  rw [List.append_nil] at ga
  refine lapp_ok ga (by omega) fun s₃ c3 b3 ga3 => ?_
  have aA := σ₂.ap a (List.mem_append_right _ (.head _))
  have σ₃ : DW s₀ d M [s.heap.objs.size] [.ref s.heap.objs.size] (a :: as) (c :: cs) pls s₃ := σ₂'.inner (c' := c) T b3 fun vs' tx hk' => by
    obtain ⟨k', hk'⟩ := hk'
    rw [List.append_nil] at hk'
    have hvv : vs' = vs := by
      have e := hk'.symm.trans ga
      have := congrArg Obj.data (Option.some.inj e)
      simp only [lstObj, Data.seq.injEq] at this
      have := this.1
      simpa using this
    subst hvv
    exact ⟨vs', c3, ga3, tx⟩
  have hn3 := b3.heap _ _ (Ne.symm hna) hn2
  have it3 : Its d s s₃ := it2.trans ⟨fun o e => b3.heap _ _ (Ne.symm aA.2.2.2.1) e, fun o e => b3.heap _ _ (Ne.symm aA.2.2.2.2.1) e⟩
  -- chain.append(node)
  obtain ⟨cC3, hC3⟩ := σ₃.ch
  refine wpAny_execs_cons (wpAny_Expr_any (MethodCall_ (dw_name σ₃ n₂.chain (getMethod_builtin ⟨_, hC3, rfl⟩ PySem.F.plainAttrs_list PySem.F.slot_list_append ty_app (fun a e => by cases e; exact ⟨_, hC3, rfl⟩) ?_))))
  refine Calls.callWith_builtin rfl (Calls.evalArgs_plain (spliced_more (dw_name σ₃ w2 (spliced_none ?_))))
  refine lapp_ok hC3 (by simp at hz ⊢; omega) fun s₄ c4 b4 hC4 => ?_
  have σ₄ := σ₃.opened T b4 ⟨_, b4.heap _ _ aN.2.1 hn3⟩ hC4
  have it4 : Its d s s₄ := it3.trans (Its.but b4 T.ZC T.IC)
  -- text += '('
  obtain ⟨tt, ht⟩ := n₂.text
  refine wpAny_execs_cons (wpAny_AugAssign_Name (wpAny_loadName_local rfl rfl σ₄.ns ht (wpAny_Constant_str (iadd_str (fun t' tk' => dw_st T (σ₄.tk (tk := tk')) fun s₅ σ₅ k5 => ?_) (by show x.cps.size + 1 ≤ sizeLine; have : (501 : Nat) ≤ sizeLine := Nat.le_of_ble_eq_true rfl; omega)))))
  refine wpAny_execs_nil ?_
  have hd : dOpen v ⟨c :: cs, x.cps.toList, pls⟩ = ⟨[] :: c :: cs, x.cps.toList ++ [40], pls⟩ := by rw [dOpen, if_pos ⟨h4, ho⟩]
  refine hc s₅ _ _ (x ++ Str.ofString "(") (by rw [hd]; exact σ₅) n₂.updt (by rw [hd]; show (x.cps ++ #[40]).toList = _; rw [Array.toList_append]) (by simp) ?_ (by simp) ((upd_ne (by decide)).trans v2) ((upd_ne (by decide)).trans k2') (it4.trans ⟨fun o e => k5 _ _ T.ZL e, fun o e => k5 _ _ T.IL e⟩)
  simp at hz ho hlen ⊢
  omega
end
end Mine

namespace Mine
theorem signs_lit : (Str.ofString "()[]:,;+-*/|&<>=.%{}~^@!") = ⟨signs24.toArray⟩ := by decide +kernel
theorem sgn_at (v : Nat) : (seqIndex? ((v / 4 % 24 : Nat) : Int) (⟨signs24.toArray⟩ : Str).length).bind ((⟨signs24.toArray⟩ : Str).cps[·]?) = some (sgn v) := by
  have h : v / 4 % 24 < 24 := Nat.mod_lt _ (by decide)
  unfold sgn
  generalize v / 4 % 24 = i at h
  have : ∀ i : Fin 24, (seqIndex? ((i.val : Nat) : Int) (⟨signs24.toArray⟩ : Str).length).bind ((⟨signs24.toArray⟩ : Str).cps[·]?) = some (signs24.getD i.val 0) := by decide +kernel
  exact this ⟨i, h⟩
section
variable {w : World} {A : Around} {mg mb : Str → Option Value} {E : Value → Shared → Prop} {s₀ s : Shared} {d : DB} {m : Str → Option Value} {ads : List Addr} {op : List (List Tr)} {pls : List Nat} {cd : Value}

theorem d_mid {Z0 : Addr} {x : Str} {v k : Nat} {tv tk : Tok} {Q : Flow → Shared → Prop} (G : GX w mg mb s₀.heap) (T : d.Apart s₀.heap) (σ : DW s₀ d m [] [] ads op pls s) (n : ND d.C d.P Z0 x m) (hz : ads.length ≤ 4) (hne : ads ≠ []) (hxz : x.cps.size ≤ 500) (hcl : ∀ c ∈ op, c.length ≤ 1000) (hpl : pls.length ≤ 1000)
    (hv : m (Str.ofString "v") = some (.int (v : Int) tv)) (hk : m (Str.ofString "k") = some (.int (k : Int) tk))
    (hc : ∀ s' m' x', DW s₀ d m' [] [] ads (dLeaf k v ⟨op, x.cps.toList, pls⟩).op (dLeaf k v ⟨op, x.cps.toList, pls⟩).pl s' → ND d.C d.P Z0 x' m' → x'.cps.toList = (dLeaf k v ⟨op, x.cps.toList, pls⟩).tx → m' (Str.ofString "v") = some (.int (v : Int) tv) → Its d s s' →
      wpAny (model PR w) A (execs (dBody.drop 5) (eD d.L cd)) Q E s') :
    wpAny (model PR w) A (execs (dBody.drop 1) (eD d.L cd)) Q E s := by
  have hlen := σ.op.len
  have f1 : (v : Int).fdiv 4 = ((v / 4 : Nat) : Int) := fdiv_n v 4
  have f2 : ((v / 4 : Nat) : Int).fmod 24 = ((v / 4 % 24 : Nat) : Int) := fmod_n (v / 4) 24 (by decide)
  have f3 : (v : Int).fdiv 96 = ((v / 96 : Nat) : Int) := fdiv_n v 96
  have f4 : ((v / 96 : Nat) : Int).fmod 2 = ((v / 96 % 2 : Nat) : Int) := fmod_n (v / 96) 2 (by decide)
  -- sign
  refine wpAny_execs_cons (wpAny_Assign_Name (sub_any (wpAny_Constant_str (wpAny_BinOp (wpAny_BinOp (dw_name σ.tk hv (wpAny_Constant_int (floordiv_int (by decide) (wpAny_Constant_int (mod_int' (by decide) ⟨brk_str, ?_⟩))))))))))
  rw [f1, f2, signs_lit]
  have hrng : (decide ((((v / 4 % 24 : Nat)) : Int) < -(2 ^ 63 : Int)) || decide ((((v / 4 % 24 : Nat)) : Int) ≥ 2 ^ 63)) = false := by
    have h : v / 4 % 24 < 24 := Nat.mod_lt _ (by decide)
    simp
    omega
  refine P.getItem_str (c := sgn v) hrng (sgn_at v) ?_
  refine dw_st T σ.tk fun s₂ σ₂ k2 => ?_
  have it2 : Its d s s₂ := ⟨fun o e => k2 _ _ T.ZL e, fun o e => k2 _ _ T.IL e⟩
  obtain ⟨ts, hts⟩ : ∃ ts : Tok, (upd m (Str.ofString "sign") (.str ⟨#[sgn v]⟩ ts)) = (upd m (Str.ofString "sign") (.str ⟨#[sgn v]⟩ ts)) := ⟨0, rfl⟩
  clear hts ts
  have gen : ∀ (tg : Tok) (s₂ : Shared), DW s₀ d (upd m (Str.ofString "sign") (.str ⟨#[sgn v]⟩ tg)) [] [] ads op pls s₂ → Its d s s₂ → wpAny (model PR w) A (execs (dBody.drop 2) (eD d.L cd)) Q E s₂ := by
    clear σ₂ it2 k2 s₂
    intro tg s₂ σ₂ it2
    have n₂ := n.upd (y := Str.ofString "sign") (v := .str ⟨#[sgn v]⟩ tg) (by decide) (by decide) (by decide) (by decide)
    have v2 := (upd_ne (m := m) (x := Str.ofString "sign") (y := Str.ofString "v") (v := .str ⟨#[sgn v]⟩ tg) (by decide)).trans hv
    have k2' := (upd_ne (m := m) (x := Str.ofString "sign") (y := Str.ofString "k") (v := .str ⟨#[sgn v]⟩ tg) (by decide)).trans hk
    have w2 := upd_same (m := m) (x := Str.ofString "sign") (v := .str ⟨#[sgn v]⟩ tg)
    generalize upd m (Str.ofString "sign") (.str ⟨#[sgn v]⟩ tg) = M at σ₂ n₂ v2 k2' w2
    obtain ⟨tt, ht⟩ := n₂.text
    have h501 : (600 : Nat) ≤ sizeLine := Nat.le_of_ble_eq_true rfl
    -- the last three, once text is told
    have rest : ∀ (s₃ : Shared) (M3 : Str → Option Value) (x' : Str), DW s₀ d M3 [] [] ads op pls s₃ → ND d.C d.P Z0 x' M3 → x'.cps.toList = x.cps.toList ++ piece v → M3 (Str.ofString "v") = some (.int (v : Int) tv) → M3 (Str.ofString "k") = some (.int (k : Int) tk) → Its d s s₃ →
        wpAny (model PR w) A (execs (dBody.drop 3) (eD d.L cd)) Q E s₃ := by
      intro s₃ M3 x' σ₃ n₃ hx' v3 k3 it3
      obtain ⟨t3, ht3⟩ := n₃.text
      obtain ⟨cP, vP, hP, rP⟩ := σ₃.pl
      have hvp := rP.len
      have hx'l : x'.cps.size = x.cps.size + (piece v).length := by rw [← Array.length_toList, hx']; simp
      have hpc : 1 ≤ (piece v).length ∧ (piece v).length ≤ 2 := by unfold piece; split <;> simp
      have hxl : x'.length = x'.cps.size := rfl
      have hfit : ¬ (x'.length : Int) ≥ 2 ^ 63 := by omega
      refine wpAny_execs_cons (wpAny_Expr_any (MethodCall_ (dw_name σ₃ n₃.places (getMethod_builtin ⟨_, hP, rfl⟩ PySem.F.plainAttrs_list PySem.F.slot_list_append ty_app (fun a e => by cases e; exact ⟨_, hP, rfl⟩) ?_))))
      refine Calls.callWith_builtin rfl (Calls.evalArgs_plain (spliced_more (wpAny_BinOp (wpAny_Call_NameR (ev_bname (G.gc.keeps σ₃.base) b_len (callWith_builtin1 (spliced_more (dw_name σ₃ ht3 (spliced_none ?_)))))))))
      refine P.len_str hfit ?_
      refine wpAny_Constant_int (sub_int (spliced_none ?_))
      have e1 : (x'.length : Int) - 1 = (((x.cps.toList ++ piece v).length - 1 : Nat) : Int) := by rw [← hx', Array.length_toList]; omega
      rw [e1]
      refine lapp_ok (s := { s₃ with toks := _ }) hP (by omega) fun s₄ c4 b4 hP4 => ?_
      have b4' : But d.P s₃ s₄ := ⟨b4.heap, b4.os, b4.bare⟩
      have σ₄ := σ₃.place T b4' hP4 rP
      have it4 : Its d s s₄ := it3.trans (Its.but b4' T.ZP T.IP)
      -- chain[-1].append(k)
      cases ads with
      | nil => exact absurd rfl hne
      | cons a as =>
      cases op with
      | nil => simp at hlen
      | cons c cs =>
      have aA := σ₄.ap a (.head _)
      obtain ⟨⟨vs, kk, ga, tr⟩, rst⟩ := σ₄.op
      have htl := TreesX.len c vs tr
      have hcl0 := hcl c (.head _)
      rw [List.append_nil] at ga
      refine wpAny_execs_cons (wpAny_Expr_any (MethodCall_ (dw_last σ₄ n₃ (by simp at hz; omega) fun tk5 => getMethod_builtin (s := { s₄ with toks := tk5 }) ⟨_, ga, rfl⟩ PySem.F.plainAttrs_list PySem.F.slot_list_append ty_app (fun a e => by cases e; exact ⟨_, ga, rfl⟩) ?_)))
      have σ₄' := σ₄.tk (tk := tk5)
      refine Calls.callWith_builtin rfl (Calls.evalArgs_plain (spliced_more (dw_name σ₄' k3 (spliced_none ?_))))
      refine lapp_ok ga (by omega) fun s₅ c5 b5 ga5 => ?_
      have σ₅ : DW s₀ d M3 [] [] (a :: as) ((c ++ [.leaf k]) :: cs) (pls ++ [(x.cps.toList ++ piece v).length - 1]) s₅ := σ₄'.inner (c' := c ++ [.leaf k]) T b5 fun vs' tx hk' => by
        obtain ⟨k', hk'⟩ := hk'
        rw [List.append_nil] at hk'
        have hvv : vs' = vs := by
          have e := hk'.symm.trans ga
          have := congrArg Obj.data (Option.some.inj e)
          simp only [lstObj, Data.seq.injEq] at this
          have := this.1
          simpa using this
        subst hvv
        exact ⟨vs' ++ [.int (k : Int) tk], c5, by rw [List.append_nil]; exact ga5, TreesX.snoc (t := .leaf k) (v := .int (k : Int) tk) (by rw [TreeX]; exact ⟨tk, rfl⟩) c vs' tx⟩
      exact hc s₅ M3 x' σ₅ n₃ hx' v3 (it4.trans ⟨fun o e => b5.heap _ _ (Ne.symm aA.2.2.2.1) e, fun o e => b5.heap _ _ (Ne.symm aA.2.2.2.2.1) e⟩)
    -- text += ..
    refine wpAny_execs_cons (wpAny_AugAssign_Name (wpAny_loadName_local rfl rfl σ₂.ns ht (wpAny_IfExp (wpAny_isTrue_BoolOp (wpAny_allTrue_Or_cons (wpAny_isTrue_Compare1 (dw_name σ₂ w2 (wpAny_Constant_str (in_str (wpAny_truthy_bool ?_))))))))))
    rw [PySem.StrLaws.found_one]
    rw [show (decide (sgn v ∈ (Str.ofString "()").cps.toList)) = decide (sgn v ∈ [40, 41]) from rfl]
    have fin : ∀ (s₄ : Shared), DW s₀ d M [] [] ads op pls s₄ → Its d s s₄ → ∀ t' tk', wpAny (model PR w) A (storeName (eD d.L cd) (Str.ofString "text") (.str (x ++ ⟨(piece v).toArray⟩) t')) (fun _ s' => wpAny (model PR w) A (execs (dBody.drop 3) (eD d.L cd)) Q E s') E { s₄ with toks := tk' } := by
      intro s₄ σ₄ it4 t' tk'
      refine dw_st T (σ₄.tk (tk := tk')) fun s₅ σ₅ k5 => ?_
      refine rest s₅ _ (x ++ ⟨(piece v).toArray⟩) σ₅ n₂.updt (by show (x.cps ++ (piece v).toArray).toList = _; rw [Array.toList_append]) ((upd_ne (by decide)).trans v2) ((upd_ne (by decide)).trans k2') (it4.trans ⟨fun o e => k5 _ _ T.ZL e, fun o e => k5 _ _ T.IL e⟩)
    have yes : esc v = true → ∀ (s₃ : Shared), DW s₀ d M [] [] ads op pls s₃ → Its d s s₃ → wpAny (model PR w) A (eval (.BinOp (.Constant (.str (Str.ofString "\\")) 0 ⟨189, 16, 189, 20⟩) .Add (.Name (Str.ofString "sign") ⟨189, 23, 189, 27⟩) ⟨189, 16, 189, 27⟩) (eD d.L cd)) (fun b s₁ => wpAny (model PR w) A (inplaceOp .Add (.str x tt) b) (fun v s₂ => wpAny (model PR w) A (storeName (eD d.L cd) (Str.ofString "text") v) (fun _ s' => wpAny (model PR w) A (execs (dBody.drop 3) (eD d.L cd)) Q E s') E s₂) E s₁) E s₃ := by
      intro hesc s₃ σ₃ it3
      refine wpAny_BinOp (wpAny_Constant_str (dw_name σ₃.tk w2 (add_str (fun t' tk' => iadd_str (fun t'' tk'' => ?_) ?_) (show 1 + 1 ≤ sizeLine from Nat.le_of_ble_eq_true rfl))))
      · have := fin s₃ σ₃ it3 t'' tk''
        rw [show (⟨(piece v).toArray⟩ : Str) = Str.ofString "\\" ++ ⟨#[sgn v]⟩ by unfold piece; rw [hesc]; rfl] at this
        exact this
      · show x.cps.size + 2 ≤ sizeLine; omega
    by_cases hin : sgn v ∈ [40, 41]
    · rw [decide_eq_true hin]
      simp only [if_true]
      exact yes (by unfold esc; rw [decide_eq_true hin]; rfl) _ σ₂.tk ⟨it2.z, it2.i⟩
    · rw [decide_eq_false hin]
      simp only [Bool.false_eq_true, if_false]
      refine wpAny_allTrue_Or_cons (wpAny_isTrue_value (wpAny_BinOp (wpAny_BinOp (dw_name σ₂.tk v2 (wpAny_Constant_int (floordiv_int (by decide) (wpAny_Constant_int (mod_int' (by decide) (truthy_int ?_)))))))))
      rw [f3, f4]
      have hb : (((((v / 96 % 2 : Nat)) : Int)) != 0) = !(v / 96 % 2 == 0) := by
        rw [Bool.eq_iff_iff]; simp; omega
      rw [hb]
      cases hbit : (v / 96 % 2 == 0) with
      | false =>
        simp only [Bool.not_false, if_true]
        exact yes (by unfold esc; rw [hbit]; simp) _ ⟨σ₂.base, σ₂.ns, σ₂.ch, σ₂.pl, σ₂.op, σ₂.nd, σ₂.ap, σ₂.os, σ₂.bare⟩ ⟨it2.z, it2.i⟩
      | true =>
        simp only [Bool.not_true, Bool.false_eq_true, if_false]
        refine wpAny_allTrue_Or_nil ?_
        simp only [Bool.false_eq_true, if_false]
        have hesc : esc v = false := by unfold esc; rw [hbit, decide_eq_false hin]; rfl
        refine dw_name ⟨σ₂.base, σ₂.ns, σ₂.ch, σ₂.pl, σ₂.op, σ₂.nd, σ₂.ap, σ₂.os, σ₂.bare⟩ w2 (iadd_str (fun t'' tk'' => ?_) ?_)
        · have := fin s₂ σ₂ it2 t'' tk''
          rw [show (⟨(piece v).toArray⟩ : Str) = ⟨#[sgn v]⟩ by unfold piece; rw [hesc]; rfl] at this
          exact this
        · show x.cps.size + 1 ≤ sizeLine; omega
  exact gen _ _ σ₂ it2
end
end Mine

namespace Mine
section
variable {w : World} {A : Around} {mg mb : Str → Option Value} {E : Value → Shared → Prop} {s₀ s : Shared} {d : DB} {m : Str → Option Value} {ads : List Addr} {op : List (List Tr)} {pls : List Nat} {cd : Value}

theorem lpop_ok {Q : Value → Shared → Prop} {l : Addr} {vs : List Value} {c : Nat} {y : Value} (hl : s.heap.get? l = some (lstObj (vs ++ [y]).toArray c)) (hz : vs.length ≤ 900)
    (h : ∀ s' c', But l s s' → s'.heap.get? l = some (lstObj vs.toArray c') → Q y s') : wpAny (model PR w) A (call (.builtin "list.pop") [.ref l]) Q E s := by
  refine wpAny_call_entry PySem.F.slot_list_pop ⟨_, hl, rfl⟩ PySem.F.entry_list_pop ?_ (PySem.F.args_list_pop_1 _)
  have hz1 : (vs ++ [y]).toArray.size ≤ sizeLine := by
    have : (1000 : Nat) ≤ sizeLine := Nat.le_of_ble_eq_true rfl
    simp; omega
  have he : (vs ++ [y]).toArray.isEmpty = false := by simp
  have hsi : ((seqIndex? (-1) (vs ++ [y]).toArray.size).bind fun k => (vs ++ [y]).toArray[k]?.map (k, ·)) = some (vs.length, y) := by
    have e1 : seqIndex? (-1) (vs ++ [y]).toArray.size = some vs.length := by
      unfold seqIndex?
      simp
      omega
    rw [e1]
    simp
  unfold Builtin.«list.pop»
  refine wpAny_bind (wpAny_of_eq (a := ((.ref l : Value), ([] : List Value))) (by rfl) ?_)
  refine wpAny_bind (wpAny_pure ?_)
  dsimp only
  rw [show Builtin.List.listFitsIndex (-1) = true by decide]
  simp only [Bool.not_true, Bool.false_eq_true, if_false]
  refine wpAny_bind (wpAny_bind (wpAny_seqItems hl rfl (wpAny_pure ?_)))
  rw [he]
  simp only [Bool.false_eq_true, if_false]
  rw [hsi]
  refine wpAny_bind ?_
  have hk := kl_erase vs [] y
  rw [List.append_nil] at hk
  refine wpAny_updateSeq (hz := hz1) hl rfl (wpAny_pure ?_) (by rw [hk]; simp only [List.size_toArray]; have : (1000 : Nat) ≤ sizeLine := Nat.le_of_ble_eq_true rfl; omega)
  have e := Heap.get?_update_self (Obj.mapSeq fun x => x.eraseIdxIfInBounds vs.length) hl rfl
  rw [show Obj.mapSeq (fun x => x.eraseIdxIfInBounds vs.length) (lstObj (vs ++ [y]).toArray c) = lstObj vs.toArray _ by unfold Obj.mapSeq; simp only [hk]; rfl] at e
  exact ⟨_, rfl, h _ _ ⟨fun b o hb e => (Heap.get?_update_other _ _ (Ne.symm hb)).trans e, rfl, id⟩ e⟩

theorem two_of {α : Type} {l : List α} (h : 1 < l.length) : ∃ a b r, l = a :: b :: r := by
  cases l with
  | nil => simp at h
  | cons a l => cases l with
    | nil => simp at h
    | cons b r => exact ⟨a, b, r, rfl⟩
theorem dClose_not {v : Nat} {d : Dr} (h : ¬ v % 4 = 3) : dClose v d = d := by
  unfold dClose
  split
  · rw [if_neg h]
  · rfl
theorem dClose_one {v : Nat} {op : List (List Tr)} {tx pl : List Nat} (h : op.length ≤ 1) : dClose v ⟨op, tx, pl⟩ = ⟨op, tx, pl⟩ := by
  unfold dClose
  cases op with
  | nil => rfl
  | cons a l => cases l with
    | nil => rfl
    | cons b r => simp at h
theorem dClose_yes {v : Nat} {c p : List Tr} {r : List (List Tr)} {tx pl : List Nat} (h : v % 4 = 3) : dClose v ⟨c :: p :: r, tx, pl⟩ = ⟨(p ++ [.node c]) :: r, tx ++ [41], pl⟩ := by
  unfold dClose
  dsimp only
  rw [if_pos h]
theorem d_close {Z0 : Addr} {x : Str} {v : Nat} {tv : Tok} {Q : Flow → Shared → Prop} (G : GX w mg mb s₀.heap) (T : d.Apart s₀.heap) (σ : DW s₀ d m [] [] ads op pls s) (n : ND d.C d.P Z0 x m) (hz : ads.length ≤ 4) (hne : ads ≠ []) (hxz : x.cps.size ≤ 500)
    (hv : m (Str.ofString "v") = some (.int (v : Int) tv))
    (hc : ∀ s' m' ads' x', DW s₀ d m' [] [] ads' (dClose v ⟨op, x.cps.toList, pls⟩).op pls s' → ND d.C d.P Z0 x' m' → x'.cps.toList = (dClose v ⟨op, x.cps.toList, pls⟩).tx → ads' ≠ [] → ads'.length ≤ 4 → ads'.getLast? = ads.getLast? → Its d s s' → Q .next s') :
    wpAny (model PR w) A (execs (dBody.drop 5) (eD d.L cd)) Q E s := by
  have hlen := σ.op.len
  obtain ⟨cC, hC⟩ := σ.ch
  refine wpAny_execs_cons (wpAny_If (wpAny_isTrue_BoolOp (wpAny_allTrue_And_cons (wpAny_isTrue_Compare1 (wpAny_BinOp (dw_name σ hv (wpAny_Constant_int (mod_int' (by decide) (wpAny_Constant_int (eq_int (wpAny_truthy_bool ?_)))))))))))
  have e4 : (((v : Int).fmod 4 == 3) : Bool) = decide (v % 4 = 3) := by
    rw [show (v : Int).fmod 4 = ((v % 4 : Nat) : Int) from fmod_n v 4 (by decide), Bool.eq_iff_iff]; simp; omega
  rw [e4]
  have skip : dClose v ⟨op, x.cps.toList, pls⟩ = ⟨op, x.cps.toList, pls⟩ → ∀ s₁, DW s₀ d m [] [] ads op pls s₁ → Its d s s₁ → wpAny (model PR w) A (execs [] (eD d.L cd)) Q E s₁ := fun hno s₁ σ₁ it =>
    wpAny_execs_nil (hc s₁ m ads x (by rw [hno]; exact σ₁) n (by rw [hno]) hne hz rfl it)
  by_cases h4 : v % 4 = 3
  case neg =>
    rw [decide_eq_false h4]
    simp only [Bool.false_eq_true, if_false]
    refine wpAny_execs_nil (skip ?_ _ σ.tk.tk.tk ⟨fun _ e => e, fun _ e => e⟩)
    exact dClose_not h4
  rw [decide_eq_true h4]
  simp only [if_true]
  refine wpAny_allTrue_And_cons (wpAny_isTrue_Compare1 (wpAny_Call_NameR (ev_bname (G.gc.keeps σ.base) b_len (callWith_builtin1 (dw_name σ.tk.tk.tk n.chain (Calls.call_len_list ⟨_, hC, rfl, _, rfl⟩ (by simp; omega) (wpAny_Constant_int (gt_int (wpAny_truthy_bool ?_)))))))))
  have el : (decide (((((ads.reverse.map Value.ref).toArray.size : Nat) : Int)) > 1)) = decide (1 < op.length) := decide_eq_decide.mpr (by simp; omega)
  rw [el]
  by_cases ho : 1 < op.length
  case neg =>
    rw [decide_eq_false ho]
    simp only [Bool.false_eq_true, if_false]
    refine wpAny_execs_nil (skip ?_ _ ⟨σ.base, σ.ns, σ.ch, σ.pl, σ.op, σ.nd, σ.ap, σ.os, σ.bare⟩ ⟨fun _ e => e, fun _ e => e⟩)
    exact dClose_one (by omega)
  rw [decide_eq_true ho]
  simp only [if_true]
  refine wpAny_allTrue_And_nil ?_
  simp only [if_true]
  obtain ⟨c, p, r, rfl⟩ := two_of ho
  obtain ⟨a, a1, as, rfl⟩ := two_of (l := ads) (by omega)
  · have σ' : ∀ tk, DW s₀ d m [] [] (a :: a1 :: as) (c :: p :: r) pls { s with toks := tk } := fun tk => σ.tk
    have hC' : s.heap.get? d.C = some (lstObj ((a1 :: as).reverse.map Value.ref ++ [Value.ref a]).toArray cC) := by
      rw [List.reverse_cons, List.map_append] at hC; exact hC
    refine wpAny_execs_cons (wpAny_Expr_any (MethodCall_ (dw_name (σ' _) n.chain (getMethod_builtin ⟨_, hC', rfl⟩ PySem.F.plainAttrs_list PySem.F.slot_list_pop PySem.F.type_list_pop (fun a e => by cases e; exact ⟨_, hC', rfl⟩) ?_))))
    refine Calls.callWith_builtin rfl (PyProof.Rows.evalArgs_none ?_)
    refine lpop_ok hC' (by simp at hz ⊢; omega) fun s₂ c2 b2 hC2 => ?_
    have σ₂ := (σ' _).closed T b2 hC2
    have it2 : Its d s s₂ := ⟨fun o e => b2.heap _ _ T.ZC e, fun o e => b2.heap _ _ T.IC e⟩
    obtain ⟨tt, ht⟩ := n.text
    refine wpAny_execs_cons (wpAny_AugAssign_Name (wpAny_loadName_local rfl rfl σ₂.ns ht (wpAny_Constant_str (iadd_str (fun t' tk' => dw_st T (σ₂.tk (tk := tk')) fun s₅ σ₅ k5 => ?_) (by show x.cps.size + 1 ≤ sizeLine; have : (501 : Nat) ≤ sizeLine := Nat.le_of_ble_eq_true rfl; omega)))))
    refine wpAny_execs_nil (wpAny_execs_nil ?_)
    have hd := dClose_yes (c := c) (p := p) (r := r) (tx := x.cps.toList) (pl := pls) h4
    refine hc s₅ _ _ (x ++ Str.ofString ")") (by rw [hd]; exact σ₅) n.updt (by rw [hd]; show (x.cps ++ #[41]).toList = _; rw [Array.toList_append]) (by simp) (by simp at hz ⊢; omega) (by simp) (it2.trans ⟨fun o e => k5 _ _ T.ZL e, fun o e => k5 _ _ T.IL e⟩)
end
end Mine

namespace Mine
/-- the check, as it reads a row -/
def chkL : Int → Bool → List Nat → Bool
  | n, _, [] => n == 0
  | n, true, _ :: r => chkL n false r
  | n, false, c :: r => if c = 92 then chkL n true r else if c = 40 then chkL (n + 1) false r else if c = 41 then (if n - 1 < 0 then false else chkL (n - 1) false r) else chkL n false r
theorem str1_ne {a b : Nat} (h : a ≠ b) : (⟨#[a]⟩ : Str) ≠ ⟨#[b]⟩ := fun e => h (by simpa using e)
theorem str2_ne {a b c : Nat} : (⟨#[a, c]⟩ : Str) ≠ ⟨#[b]⟩ := fun e => by simp at e
theorem chkF_units : ∀ (l : List Nat) (i : Nat) (esc : Bool) (n : Int), chkF n (unitsF i esc l) = chkL n esc l
  | [], i, false, n => by simp [unitsF, chkF, chkL]
  | [], i, true, n => by
    rw [unitsF, chkF, if_neg (str1_ne (by decide)), if_neg (str1_ne (by decide)), chkF, chkL]
  | c :: r, i, true, n => by
    rw [unitsF, chkF, if_neg str2_ne, if_neg str2_ne, chkL]
    exact chkF_units r (i + 1) false n
  | c :: r, i, false, n => by
    rw [unitsF, chkL]
    by_cases h1 : c = 92
    · rw [if_pos h1, if_pos h1]; exact chkF_units r (i + 1) true n
    · rw [if_neg h1, if_neg h1, chkF]
      by_cases h2 : c = 40
      · subst h2
        rw [if_pos rfl, if_pos rfl]; exact chkF_units r (i + 1) false _
      · rw [if_neg (str1_ne h2), if_neg h2]
        by_cases h3 : c = 41
        · subst h3
          rw [if_pos rfl, if_pos rfl, chkF_units r (i + 1) false _]
        · rw [if_neg (str1_ne h3), if_neg h3]; exact chkF_units r (i + 1) false _
theorem check_L (l : List Nat) : check l = chkL 0 false l := chkF_units l 0 false 0

def Shape (p : List Nat) : Prop := ∃ c, p = [92, c] ∨ (p = [c] ∧ c ≠ 92 ∧ c ≠ 40 ∧ c ≠ 41)
theorem chk_piece {p : List Nat} (h : Shape p) (n : Int) (r : List Nat) : chkL n false (p ++ r) = chkL n false r := by
  obtain ⟨c, rfl | ⟨rfl, h1, h2, h3⟩⟩ := h
  · simp [chkL]
  · simp [chkL, h1, h2, h3]
theorem units_piece {p : List Nat} (h : Shape p) (o : Nat) (r : List Nat) : unitsF o false (p ++ r) = (((o + p.length - 1 : Nat) : Int), ⟨p.toArray⟩) :: unitsF (o + p.length) false r := by
  obtain ⟨c, rfl | ⟨rfl, h1, h2, h3⟩⟩ := h
  · simp [unitsF]
  · simp [unitsF, h1]
theorem pre_piece {p : List Nat} (h : Shape p) {n : Int} (hn : 1 ≤ n) {r : List Nat} (hr : ∀ j, chkL n false (r.take j) = false) (j : Nat) : chkL n false ((p ++ r).take j) = false := by
  have h0 : (n == 0) = false := by simp; omega
  obtain ⟨c, rfl | ⟨rfl, h1, h2, h3⟩⟩ := h
  · match j with
    | 0 => simp [chkL, h0]
    | 1 => simp [chkL, h0]
    | j + 2 => simp [chkL]; exact hr j
  · match j with
    | 0 => simp [chkL, h0]
    | j + 1 => simp [chkL, h1, h2, h3]; exact hr j

section
variable (pc : Nat → List Nat)
mutual
def ser : Tr → List Nat
  | .leaf k => pc k
  | .node cs => 40 :: (sers cs ++ [41])
def sers : List Tr → List Nat
  | [] => []
  | t :: ts => ser t ++ sers ts
end
mutual
def uT (o : Nat) : Tr → List U
  | .leaf k => [(((o + (pc k).length - 1 : Nat) : Int), ⟨(pc k).toArray⟩)]
  | .node cs => ((o : Int), ⟨#[40]⟩) :: (uTs (o + 1) cs ++ [(((o + 1 + (sers pc cs).length : Nat) : Int), ⟨#[41]⟩)])
def uTs (o : Nat) : List Tr → List U
  | [] => []
  | t :: ts => uT o t ++ uTs (o + (ser pc t).length) ts
end
end
section
variable {pc : Nat → List Nat} (hs : ∀ k, Shape (pc k))
include hs
mutual
theorem units_T : ∀ (t : Tr) (o : Nat) (r : List Nat), unitsF o false (ser pc t ++ r) = uT pc o t ++ unitsF (o + (ser pc t).length) false r
  | .leaf k, o, r => by rw [ser, uT, units_piece (hs k)]; rfl
  | .node cs, o, r => by
    rw [ser, uT]
    show unitsF o false (40 :: (sers pc cs ++ [41] ++ r)) = _
    rw [unitsF, if_neg (by decide), List.append_assoc, units_Ts cs (o + 1)]
    show _ :: (uTs pc (o + 1) cs ++ unitsF (o + 1 + (sers pc cs).length) false (41 :: r)) = _
    rw [unitsF, if_neg (by decide)]
    simp
    congr 1
    omega
theorem units_Ts : ∀ (ts : List Tr) (o : Nat) (r : List Nat), unitsF o false (sers pc ts ++ r) = uTs pc o ts ++ unitsF (o + (sers pc ts).length) false r
  | [], o, r => by simp [sers, uTs]
  | t :: ts, o, r => by
    rw [sers, uTs, List.append_assoc, units_T t o, units_Ts ts]
    simp
    congr 1
    omega
end
mutual
theorem chk_T : ∀ (t : Tr) (n : Int) (r : List Nat), 0 ≤ n → chkL n false (ser pc t ++ r) = chkL n false r
  | .leaf k, n, r, _ => by rw [ser]; exact chk_piece (hs k) n r
  | .node cs, n, r, hn => by
    rw [ser]
    show chkL n false (40 :: (sers pc cs ++ [41] ++ r)) = _
    rw [chkL, if_neg (by decide), if_pos rfl, List.append_assoc, chk_Ts cs (n + 1) _ (by omega)]
    show chkL (n + 1) false (41 :: r) = _
    rw [chkL, if_neg (by decide), if_neg (by decide), if_pos rfl, if_neg (by omega)]
    congr 1
    omega
theorem chk_Ts : ∀ (ts : List Tr) (n : Int) (r : List Nat), 0 ≤ n → chkL n false (sers pc ts ++ r) = chkL n false r
  | [], n, r, _ => by simp [sers]
  | t :: ts, n, r, hn => by
    rw [sers, List.append_assoc, chk_T t n _ hn, chk_Ts ts n r hn]
end
mutual
theorem pre_T : ∀ (t : Tr) (n : Int) (r : List Nat), 1 ≤ n → (∀ j, chkL n false (r.take j) = false) → ∀ j, chkL n false ((ser pc t ++ r).take j) = false
  | .leaf k, n, r, hn, hr, j => by rw [ser]; exact pre_piece (hs k) hn hr j
  | .node cs, n, r, hn, hr, j => by
    have h0 : (n == 0) = false := by simp; omega
    have h1 : (n + 1 == 0) = false := by simp; omega
    rw [ser]
    show chkL n false ((40 :: (sers pc cs ++ [41] ++ r)).take j) = _
    cases j with
    | zero => simp [chkL, h0]
    | succ j =>
      rw [List.take_succ_cons, chkL, if_neg (by decide), if_pos rfl, List.append_assoc]
      refine pre_Ts cs (n + 1) _ (by omega) (fun i => ?_) j
      cases i with
      | zero => simp [chkL, h1]
      | succ i =>
        show chkL (n + 1) false ((41 :: r).take (i + 1)) = false
        rw [List.take_succ_cons, chkL, if_neg (by decide), if_neg (by decide), if_pos rfl, if_neg (by omega)]
        rw [show n + 1 - 1 = n by omega]
        exact hr i
theorem pre_Ts : ∀ (ts : List Tr) (n : Int) (r : List Nat), 1 ≤ n → (∀ j, chkL n false (r.take j) = false) → ∀ j, chkL n false ((sers pc ts ++ r).take j) = false
  | [], n, r, _, hr, j => by simpa [sers] using hr j
  | t :: ts, n, r, hn, hr, j => by
    rw [sers, List.append_assoc]
    exact pre_T t n _ hn (pre_Ts ts n r hn hr) j
end
/-- the node's own bracket is the first at which it closes -/
theorem closes_no (cs : List Tr) (r : List Nat) {j : Nat} (h1 : 1 ≤ j) (h2 : j < (ser pc (.node cs)).length) : closes ((ser pc (.node cs) ++ r).take j) = false := by
  have hk : check ((ser pc (.node cs) ++ r).take j) = false := by
    rw [check_L, List.take_append_of_le_length (by omega)]
    rw [ser] at h2 ⊢
    obtain ⟨i, rfl⟩ : ∃ i, j = i + 1 := ⟨j - 1, by omega⟩
    rw [List.take_succ_cons, chkL, if_neg (by decide), if_pos rfl]
    simp at h2
    rw [List.take_append_of_le_length (by omega)]
    have := pre_Ts hs cs 1 [] (by decide) (fun j => by simp [chkL]) i
    simpa using this
  unfold closes
  rw [hk]
  simp
theorem closes_yes (cs : List Tr) : closes (ser pc (.node cs)) = true := by
  have h1 : check (ser pc (.node cs)) = true := by
    rw [check_L, ser, chkL, if_neg (by decide), if_pos rfl, chk_Ts hs cs _ _ (by decide)]
    simp [chkL]
  have h2 : check (ser pc (.node cs)).dropLast = false := by
    rw [check_L, ser]
    rw [show (40 :: (sers pc cs ++ [41])).dropLast = 40 :: sers pc cs by rw [← List.cons_append, List.dropLast_concat]]
    rw [chkL, if_neg (by decide), if_pos rfl]
    have := pre_Ts hs cs 1 [] (by decide) (fun j => by simp [chkL]) (sers pc cs).length
    simpa using this
  have h3 : check ((ser pc (.node cs)).tail ++ [40]) = false := by
    rw [check_L, ser, List.tail_cons, List.append_assoc, chk_Ts hs cs _ _ (by decide)]
    simp [chkL]
  unfold closes
  rw [h1, h2, h3]
  simp
end
end Mine

namespace Mine
theorem findEnd_at {x : List Nat} {b E : Nat} (hno : ∀ e, b < e → e < E → closes ((x.take e).drop b) = false) (hyes : closes ((x.take E).drop b) = true) (hE : E ≤ x.length) :
    ∀ (f e : Nat), b < e → e ≤ E → E + 1 ≤ f + e → findEnd x b f e = E
  | 0, e, h1, h2, h3 => by omega
  | f + 1, e, h1, h2, h3 => by
    rw [findEnd]
    by_cases he : e = E
    · subst he
      rw [hyes]; simp
    · rw [hno e h1 (by omega), if_pos (by simp; omega)]
      exact findEnd_at hno hyes hE f (e + 1) (by omega) (by omega) (by omega)
theorem skip_at {us : List U} {lim : Int} {kc : Nat} {u : U} (hc : us[kc]? = some u) (hu : lim ≤ u.1) :
    ∀ (f k : Nat), k ≤ kc → kc + 1 ≤ f + k → (∀ (j : Nat) (v : U), k ≤ j → j < kc → us[j]? = some v → v.1 < lim) → skipTo us lim f k = some kc
  | 0, k, h1, h2, _ => by omega
  | f + 1, k, h1, h2, h3 => by
    rw [skipTo]
    by_cases hk : k = kc
    · subst hk
      rw [hc]
      dsimp only
      rw [if_neg (by omega)]
    · obtain ⟨hlt, _⟩ := List.getElem?_eq_some_iff.mp hc
      have hg : us[k]? = some us[k] := List.getElem?_eq_getElem (by omega)
      rw [hg]
      dsimp only
      rw [if_pos (h3 k _ (Nat.le_refl _) (by omega) hg)]
      exact skip_at hc hu f (k + 1) (by omega) (by omega) fun j v h4 => h3 j v (by omega)

def tellS (x : List Nat) (us : List U) (n k : Nat) (st : List Ent) (e : Ent) (pl wo : Nat) (lk : List Int) : Option (Nat × List Int) :=
  if cutP (mv st.length wo e) then (match skipTo us (findEnd x (mv st.length wo e).bg.toNat x.length (pl + 1) - 1) (us.length + 1) k with | none => none | some k' => srun x us n k' (mv st.length wo e :: st) lk)
  else srun x us n k (mv st.length wo e :: st) lk
section
variable {x : List Nat} {us : List U} {n k : Nat} {st : List Ent} {e e2 : Ent} {lk : List Int} {pl : Int} {u : Str} {wo : Nat}
theorem srun_open (h : us[k]? = some (pl, ⟨#[40]⟩)) : srun x us (n + 1) k st lk = srun x us n (k + 1) (topE st pl :: st) lk := by
  rw [srun, h]
  dsimp only
  rw [if_pos rfl]
theorem srun_close0 (h : us[k]? = some (pl, ⟨#[41]⟩)) : srun x us (n + 1) k [e] lk = some (e.lo, lk) := by
  rw [srun, h]
  dsimp only
  rw [if_neg (str1_ne (by decide)), if_pos rfl]
  rfl
theorem srun_close (h : us[k]? = some (pl, ⟨#[41]⟩)) : srun x us (n + 1) k (e :: e2 :: st) lk = tellS x us n (k + 1) st e2 pl.toNat (if (e2 :: st).length % 2 = 0 then e.lo else e.hi) lk := by
  rw [srun, h]
  dsimp only
  rw [if_neg (str1_ne (by decide)), if_pos rfl, if_neg (by simp)]
  rfl
theorem srun_leaf (h : us[k]? = some (pl, u)) (h1 : u ≠ ⟨#[40]⟩) (h2 : u ≠ ⟨#[41]⟩) (ht : (lastSign u).bind tok = some wo) : srun x us (n + 1) k (e :: st) lk = tellS x us n (k + 1) st e pl.toNat wo (lk ++ [pl]) := by
  rw [srun, h]
  dsimp only
  rw [if_neg h1, if_neg h2, ht]
  rfl
end

structure Enc (e : Ent) (a b : Nat) : Prop where
  lo : e.lo = if a = 0 then 256 else a
  hi : e.hi = if b = 256 then 0 else b
  a1 : a ≤ 255
  b1 : 1 ≤ b
  b2 : b ≤ 256
theorem cut_enc {e : Ent} {a b : Nat} (h : Enc e a b) : cutP e = decide (b ≤ a) := by
  obtain ⟨h1, h2, h3, h4, h5⟩ := h
  unfold cutP
  rw [h1, h2, Bool.eq_iff_iff]
  by_cases ha : a = 0 <;> by_cases hb : b = 256 <;> simp [ha, hb] <;> omega
theorem mv_up {e : Ent} {a b n r : Nat} (h : Enc e a b) (hn : n % 2 = 0) (h1 : 1 ≤ r) (h2 : r ≤ 255) : Enc (mv n r e) (max a r) b := by
  have hl : (mv n r e).lo = if e.lo < 256 then max e.lo r else r := by unfold mv; rw [if_pos hn]
  have hh : (mv n r e).hi = e.hi := by unfold mv; rw [if_pos hn]
  have h3 := h.a1
  refine ⟨?_, hh.trans h.hi, by omega, h.b1, h.b2⟩
  rw [hl, h.lo, if_neg (by omega : ¬ max a r = 0)]
  by_cases ha : a = 0
  · rw [if_pos ha, if_neg (by omega)]; omega
  · rw [if_neg ha, if_pos (by omega)]
theorem mv_dn {e : Ent} {a b n r : Nat} (h : Enc e a b) (hn : ¬ n % 2 = 0) (h1 : 1 ≤ r) (h2 : r ≤ 255) : Enc (mv n r e) a (min b r) := by
  have hl : (mv n r e).lo = e.lo := by unfold mv; rw [if_neg hn]
  have hh : (mv n r e).hi = if e.hi = 0 then r else min e.hi r := by unfold mv; rw [if_neg hn]
  have h3 := h.b1
  have h4 := h.b2
  refine ⟨hl.trans h.lo, ?_, h.a1, by omega, by omega⟩
  rw [hh, h.hi, if_neg (by omega : ¬ min b r = 256)]
  by_cases hb : b = 256
  · rw [if_pos hb, if_pos rfl]; omega
  · rw [if_neg hb, if_neg (by omega)]

structure Ctx (x : List Nat) (us : List U) (b E kc : Nat) : Prop where
  no : ∀ e, b < e → e < E → closes ((x.take e).drop b) = false
  yes : closes ((x.take E).drop b) = true
  le : E ≤ x.length
  cl : us[kc]? = some (((E - 1 : Nat) : Int), ⟨#[41]⟩)
theorem mv_b (n wo : Nat) (e : Ent) : (mv n wo e).bg = e.bg := by unfold mv; split <;> rfl
theorem tell_cut {x : List Nat} {us : List U} {n k b E kc : Nat} {st : List Ent} {e : Ent} {pl wo : Nat} {lk : List Int} (C : Ctx x us b E kc) (hb : e.bg.toNat = b) (h1 : b ≤ pl) (h2 : pl + 1 ≤ E) (hk : k ≤ kc)
    (hu : ∀ (j : Nat) (v : U), k ≤ j → j < kc → us[j]? = some v → v.1 < ((E - 1 : Nat) : Int)) (hc : cutP (mv st.length wo e) = true) : tellS x us n k st e pl wo lk = srun x us n kc (mv st.length wo e :: st) lk := by
  unfold tellS
  rw [if_pos hc, mv_b, hb, findEnd_at C.no C.yes C.le x.length (pl + 1) (by omega) (by omega) (by have := C.le; omega)]
  have e1 : ((E : Int) - 1) = ((E - 1 : Nat) : Int) := by omega
  rw [e1]
  obtain ⟨hlt, _⟩ := List.getElem?_eq_some_iff.mp C.cl
  rw [skip_at C.cl (Int.le_refl _) (us.length + 1) k hk (by omega) hu]
theorem tell_no {x : List Nat} {us : List U} {n k : Nat} {st : List Ent} {e : Ent} {pl wo : Nat} {lk : List Int} (hc : cutP (mv st.length wo e) = false) : tellS x us n k st e pl wo lk = srun x us n k (mv st.length wo e :: st) lk := by
  unfold tellS
  rw [hc]
  simp

theorem drop_app {us l1 l2 : List U} {k : Nat} (h : us.drop k = l1 ++ l2) : us.drop (k + l1.length) = l2 := by
  rw [← List.drop_drop, h, List.drop_left]
theorem drop_appN {us l1 l2 : List Nat} {k : Nat} (h : us.drop k = l1 ++ l2) : us.drop (k + l1.length) = l2 := by
  rw [← List.drop_drop, h, List.drop_left]
theorem drop_at {us r : List U} {u : U} {k : Nat} (h : us.drop k = u :: r) : us[k]? = some u := by
  have := congrArg (fun l : List U => l[0]?) h
  simpa using this
theorem drop_in {us l r : List U} {k j : Nat} {v : U} (h : us.drop k = l ++ r) (h1 : k ≤ j) (h2 : j < k + l.length) (hv : us[j]? = some v) : v ∈ l := by
  have h3 : (us.drop k)[j - k]? = some v := by
    rw [List.getElem?_drop, show k + (j - k) = j by omega]; exact hv
  rw [h, List.getElem?_append_left (by omega)] at h3
  exact List.mem_of_getElem? h3

def par (st : List Ent) : Bool := decide (st.length % 2 = 0)
theorem par_cons (e : Ent) (st : List Ent) : par (e :: st) = !par st := by
  unfold par
  rw [Bool.eq_iff_iff]
  simp
  omega
def Rel (a b v r : Nat) : Prop := (v ≤ a ∧ r ≤ a) ∨ (a < v ∧ v < b ∧ r = v) ∨ (b ≤ v ∧ b ≤ r)
def Out (up : Bool) (a b : Nat) (vs : List Nat) (a' b' : Nat) : Prop :=
  if up = true then b' = b ∧ a ≤ a' ∧ ((vs.foldl max a < b ∧ a' = vs.foldl max a) ∨ (b ≤ vs.foldl max a ∧ b ≤ a'))
  else a' = a ∧ b' ≤ b ∧ ((a < vs.foldl min b ∧ b' = vs.foldl min b) ∨ (vs.foldl min b ≤ a ∧ b' ≤ a))
theorem fold_max : ∀ (l : List Nat) (a x : Nat), l.foldl max (max a x) = max a (l.foldl max x)
  | [], _, _ => rfl
  | y :: l, a, x => by rw [List.foldl_cons, List.foldl_cons, Nat.max_assoc, fold_max l]
theorem fold_min : ∀ (l : List Nat) (a x : Nat), l.foldl min (min a x) = min a (l.foldl min x)
  | [], _, _ => rfl
  | y :: l, a, x => by rw [List.foldl_cons, List.foldl_cons, Nat.min_assoc, fold_min l]
theorem fold_best1 {vs : List Nat} (h : vs ≠ []) (a : Nat) : vs.foldl max a = max a (best true vs) := by
  cases vs with
  | nil => exact absurd rfl h
  | cons x r => rw [List.foldl_cons, fold_max]; rfl
theorem fold_best0 {vs : List Nat} (h : vs ≠ []) (a : Nat) : vs.foldl min a = min a (best false vs) := by
  cases vs with
  | nil => exact absurd rfl h
  | cons x r => rw [List.foldl_cons, fold_min]; rfl
theorem le_fold_max : ∀ (l : List Nat) (a : Nat), a ≤ l.foldl max a
  | [], a => Nat.le_refl _
  | y :: l, a => by rw [List.foldl_cons]; have := le_fold_max l (max a y); omega
theorem fold_min_le : ∀ (l : List Nat) (a : Nat), l.foldl min a ≤ a
  | [], a => Nat.le_refl _
  | y :: l, a => by rw [List.foldl_cons]; have := fold_min_le l (min a y); omega
theorem dues_cut {ws : List Nat} {up : Bool} : ∀ (ts : List Tr) {lo hi : Nat}, hi ≤ lo → dues ws up lo hi ts = []
  | [], _, _, _ => by rw [dues]
  | t :: ts, lo, hi, h => by
    rw [dues, due_cut t h]
    cases up with
    | true => simp only [if_true, List.nil_append]; exact dues_cut ts (by omega)
    | false => simp only [Bool.false_eq_true, if_false, List.nil_append]; exact dues_cut ts (by omega)
theorem vals_ne {ws : List Nat} {up : Bool} {cs : List Tr} (h : cs ≠ []) : vals ws up cs ≠ [] := by
  cases cs with
  | nil => exact absurd rfl h
  | cons t ts => rw [vals]; simp

section
variable (pc : Nat → List Nat) (P : Nat → Nat)
mutual
def PlOK (o : Nat) : Tr → Prop
  | .leaf k => P k = o + (pc k).length - 1
  | .node cs => PlOKs (o + 1) cs
def PlOKs (o : Nat) : List Tr → Prop
  | [] => True
  | t :: ts => PlOK o t ∧ PlOKs (o + (ser pc t).length) ts
end
end
mutual
theorem uT_in {pc : Nat → List Nat} (hs : ∀ k, Shape (pc k)) : ∀ (t : Tr) (o : Nat) (u : U), u ∈ uT pc o t → u.1 < ((o + (ser pc t).length : Nat) : Int)
  | .leaf k, o, u, h => by
    rw [uT, List.mem_singleton] at h
    subst h
    have : 1 ≤ (pc k).length := by obtain ⟨c, e | ⟨e, _⟩⟩ := hs k <;> rw [e] <;> simp
    rw [ser]
    show ((o + (pc k).length - 1 : Nat) : Int) < _
    omega
  | .node cs, o, u, h => by
    rw [uT, List.mem_cons, List.mem_append, List.mem_singleton] at h
    rw [ser]
    simp only [List.length_cons, List.length_append, List.length_nil]
    rcases h with h | h | h
    · subst h; show (o : Int) < _; omega
    · have := uTs_in hs cs (o + 1) u h; omega
    · subst h; show ((o + 1 + (sers pc cs).length : Nat) : Int) < _; omega
theorem uTs_in {pc : Nat → List Nat} (hs : ∀ k, Shape (pc k)) : ∀ (ts : List Tr) (o : Nat) (u : U), u ∈ uTs pc o ts → u.1 < ((o + (sers pc ts).length : Nat) : Int)
  | [], o, u, h => by rw [uTs] at h; cases h
  | t :: ts, o, u, h => by
    rw [uTs, List.mem_append] at h
    rw [sers, List.length_append]
    rcases h with h | h
    · have := uT_in hs t o u h; omega
    · have := uTs_in hs ts _ u h; omega
end
end Mine

namespace Mine
theorem uT_len (pc : Nat → List Nat) (o k : Nat) (t : Tr) (ts : List Tr) : k + (uTs pc o (t :: ts)).length = k + (uT pc o t).length + (uTs pc (o + (ser pc t).length) ts).length := by
  rw [uTs, List.length_append]; omega
/-- what the leaves bear -/
def Leaf (pc : Nat → List Nat) (ws : List Nat) (k : Nat) : Prop := (lastSign ⟨(pc k).toArray⟩).bind tok = some (ws.getD k 0) ∧ 1 ≤ ws.getD k 0 ∧ ws.getD k 0 ≤ 255
theorem shape_ne {p : List Nat} (h : Shape p) : (⟨p.toArray⟩ : Str) ≠ ⟨#[40]⟩ ∧ (⟨p.toArray⟩ : Str) ≠ ⟨#[41]⟩ := by
  obtain ⟨c, rfl | ⟨rfl, h1, h2, h3⟩⟩ := h
  · exact ⟨str2_ne, str2_ne⟩
  · exact ⟨str1_ne h2, str1_ne h3⟩
theorem ctx_of {pc : Nat → List Nat} (hs : ∀ k, Shape (pc k)) {x : List Nat} {us : List U} {cs : List Tr} {rest : List Nat} {o kc : Nat} (hx : x.drop o = ser pc (.node cs) ++ rest) (hc : us[kc]? = some (((o + 1 + (sers pc cs).length : Nat) : Int), ⟨#[41]⟩)) (ho : o ≤ x.length) :
    Ctx x us o (o + 1 + (sers pc cs).length + 1) kc := by
  have hl : (ser pc (.node cs)).length = (sers pc cs).length + 2 := by rw [ser]; simp
  have hxl : x.length = o + ((sers pc cs).length + 2) + rest.length := by
    have := congrArg List.length hx
    rw [List.length_append, hl, List.length_drop] at this
    omega
  refine ⟨fun e h1 h2 => ?_, ?_, by omega, by rw [hc, show o + 1 + (sers pc cs).length + 1 - 1 = o + 1 + (sers pc cs).length by omega]⟩
  · rw [List.drop_take, hx]
    exact closes_no hs cs rest (by omega) (by omega)
  · rw [List.drop_take, hx, show o + 1 + (sers pc cs).length + 1 - o = (ser pc (.node cs)).length by omega, List.take_left]
    exact closes_yes hs cs
theorem rel_up {a b v r : Nat} (hab : a < b) (h : Rel a b v r) : (max a r < b ∧ max a r = max a v) ∨ (b ≤ max a r ∧ b ≤ max a v) := by unfold Rel at h; omega
theorem rel_dn {a b v r : Nat} (hab : a < b) (h : Rel a b v r) : (a < min b r ∧ min b r = min b v) ∨ (min b r ≤ a ∧ min b v ≤ a) := by unfold Rel at h; omega
theorem out_nil {up : Bool} {a b : Nat} (hab : a < b) : Out up a b [] a b := by
  unfold Out
  split
  · exact ⟨rfl, Nat.le_refl _, .inl ⟨hab, rfl⟩⟩
  · exact ⟨rfl, Nat.le_refl _, .inl ⟨hab, rfl⟩⟩
section
variable {pc : Nat → List Nat} (hs : ∀ k, Shape (pc k)) {P : Nat → Nat} {ws : List Nat} (hw : ∀ k, k < ws.length → Leaf pc ws k) {x : List Nat} {us : List U}
include hs hw
mutual
theorem T_ok : ∀ (t : Tr) (o k : Nat) (st : List Ent) (e : Ent) (lk : List Int) (a b : Nat) (post : List U) (rest : List Nat), us.drop k = uT pc o t ++ post → x.drop o = ser pc t ++ rest → o ≤ x.length → okT ws.length t → PlOK pc P o t → Enc e a b → a < b →
    ∃ r c, Rel a b (val ws (!par st) t) r ∧ 1 ≤ r ∧ r ≤ 255 ∧ ∀ n, srun x us (n + c) k (e :: st) lk = tellS x us n (k + (uT pc o t).length) st e (o + (ser pc t).length - 1) r (lk ++ (due ws (!par st) a b t).map (fun k => (P k : Int)))
  | .leaf j, o, k, st, e, lk, a, b, post, rest, hu, hx, ho, hok, hp, he, hab => by
    obtain ⟨h1, h2, h3⟩ := hw j hok
    obtain ⟨n1, n2⟩ := shape_ne (hs j)
    rw [uT] at hu
    refine ⟨ws.getD j 0, 1, ?_, h2, h3, fun n => ?_⟩
    · rw [val]; unfold Rel; omega
    · rw [srun_leaf (drop_at hu) n1 n2 h1, due, if_neg (by omega), ser, uT]
      rw [PlOK] at hp
      rw [← hp]
      rfl
  | .node cs, o, k, st, e, lk, a, b, post, rest, hu, hx, ho, hok, hp, he, hab => by
    obtain ⟨hne, _, hokc⟩ := hok
    have hl : (ser pc (.node cs)).length = (sers pc cs).length + 2 := by rw [ser]; simp
    have hul : (uT pc o (.node cs)).length = (uTs pc (o + 1) cs).length + 2 := by rw [uT]; simp
    have hu' := hu
    rw [uT, List.cons_append, List.append_assoc] at hu'
    have hopen := drop_at hu'
    have hu1 : us.drop (k + 1) = uTs pc (o + 1) cs ++ (((o + 1 + (sers pc cs).length : Nat) : Int), ⟨#[41]⟩) :: post := by
      have := drop_app (l1 := [((o : Int), ⟨#[40]⟩)]) (l2 := uTs pc (o + 1) cs ++ (((o + 1 + (sers pc cs).length : Nat) : Int), ⟨#[41]⟩) :: post) (us := us) (k := k) hu'
      exact this
    have hclose := drop_at (drop_app hu1)
    have C := ctx_of hs hx hclose ho
    have hx1 : x.drop (o + 1) = sers pc cs ++ (41 :: rest) := by
      have h5 : x.drop o = [40] ++ (sers pc cs ++ (41 :: rest)) := by rw [hx, ser]; simp
      exact drop_appN h5
    have hxl : o + 1 ≤ x.length := by have := C.le; omega
    have he1 : Enc ⟨e.lo, e.hi, (o : Int)⟩ a b := ⟨he.lo, he.hi, he.a1, he.b1, he.b2⟩
    obtain ⟨e', a', b', c, hE, hbg, hO, hR, hrun⟩ := Ts_ok cs (o + 1) (k + 1) (e :: st) ⟨e.lo, e.hi, (o : Int)⟩ lk a b post (41 :: rest) hu1 hx1 hxl hokc hp he1 hab (by simpa using C) (by simp)
    have hrun2 : ∀ n, srun x us (n + (1 + c + 1)) k (e :: st) lk = tellS x us n (k + (uT pc o (.node cs)).length) st e (o + (ser pc (.node cs)).length - 1) (if (e :: st).length % 2 = 0 then e'.lo else e'.hi) (lk ++ (dues ws (par (e :: st)) a b cs).map (fun k => (P k : Int))) := by
      intro n
      rw [show n + (1 + c + 1) = (n + 1 + c) + 1 by omega, srun_open hopen]
      show srun x us (n + 1 + c) (k + 1) (⟨e.lo, e.hi, (o : Int)⟩ :: e :: st) lk = _
      rw [hrun (n + 1), srun_close hclose, hul, hl]
      rw [show k + 1 + (uTs pc (o + 1) cs).length + 1 = k + ((uTs pc (o + 1) cs).length + 2) by omega, show o + ((sers pc cs).length + 2) - 1 = o + 1 + (sers pc cs).length by omega]
      rfl
    have hdue : due ws (!par st) a b (.node cs) = dues ws (par (e :: st)) a b cs := by rw [due, if_neg (by omega), par_cons]
    have hval : val ws (!par st) (.node cs) = best (!par st) (vals ws (!par (e :: st)) cs) := by rw [val, par_cons]
    rw [hdue, hval]
    have hvn := vals_ne (ws := ws) (up := !par (e :: st)) hne
    generalize vals ws (!par (e :: st)) cs = vs at hO hvn
    have h255 := hE.a1
    have h256 := hE.b1
    cases hpar : par (e :: st) with
    | true =>
      rw [hpar] at hO hR
      have hps : (!par st) = true := by rw [← par_cons e st]; exact hpar
      have hm : (e :: st).length % 2 = 0 := by unfold par at hpar; simpa using hpar
      have ha1 : 1 ≤ a' := hR hne
      have hlo : e'.lo = a' := by rw [hE.lo, if_neg (by omega)]
      unfold Out at hO
      rw [if_pos rfl, fold_best1 hvn] at hO
      refine ⟨a', 1 + c + 1, ?_, ha1, h255, fun n => ?_⟩
      · rw [hps]; unfold Rel; omega
      · rw [hrun2 n, if_pos hm, hlo, hpar]
    | false =>
      rw [hpar] at hO hR
      have hps : (!par st) = false := by rw [← par_cons e st]; exact hpar
      have hm : ¬ (e :: st).length % 2 = 0 := by unfold par at hpar; simpa using hpar
      have hb1 : b' ≤ 255 := hR hne
      have hhi : e'.hi = b' := by rw [hE.hi, if_neg (by omega)]
      unfold Out at hO
      rw [if_neg (by decide), fold_best0 hvn] at hO
      refine ⟨b', 1 + c + 1, ?_, h256, hb1, fun n => ?_⟩
      · rw [hps]; unfold Rel; omega
      · rw [hrun2 n, if_neg hm, hhi, hpar]
theorem Ts_ok : ∀ (ts : List Tr) (o k : Nat) (st : List Ent) (e : Ent) (lk : List Int) (a b : Nat) (post : List U) (rest : List Nat), us.drop k = uTs pc o ts ++ (((o + (sers pc ts).length : Nat) : Int), ⟨#[41]⟩) :: post → x.drop o = sers pc ts ++ rest → o ≤ x.length → okTs ws.length ts → PlOKs pc P o ts → Enc e a b → a < b →
    Ctx x us e.bg.toNat (o + (sers pc ts).length + 1) (k + (uTs pc o ts).length) → e.bg.toNat < o →
    ∃ e' a' b' c, Enc e' a' b' ∧ e'.bg = e.bg ∧ Out (par st) a b (vals ws (!par st) ts) a' b' ∧ (ts ≠ [] → if par st = true then 1 ≤ a' else b' ≤ 255) ∧
      ∀ n, srun x us (n + c) k (e :: st) lk = srun x us n (k + (uTs pc o ts).length) (e' :: st) (lk ++ (dues ws (par st) a b ts).map (fun k => (P k : Int)))
  | [], o, k, st, e, lk, a, b, post, rest, hu, hx, ho, hok, hp, he, hab, C, hbo => by
    refine ⟨e, a, b, 0, he, rfl, ?_, fun h => absurd rfl h, fun n => ?_⟩
    · rw [vals]; exact out_nil hab
    · rw [dues, uTs]; simp
  | t :: ts, o, k, st, e, lk, a, b, post, rest, hu, hx, ho, hok, hp, he, hab, C, hbo => by
    obtain ⟨hok1, hok2⟩ := hok
    obtain ⟨hp1, hp2⟩ := hp
    have hul := uT_len pc o k t ts
    have hsl : o + (sers pc (t :: ts)).length = o + (ser pc t).length + (sers pc ts).length := by rw [sers, List.length_append]; omega
    rw [hsl] at hu C
    rw [hul] at C ⊢
    rw [uTs, List.append_assoc] at hu
    rw [sers, List.append_assoc] at hx
    have hu2 := drop_app hu
    have hx2 := drop_appN hx
    have ho2 : o + (ser pc t).length ≤ x.length := by have := C.le; omega
    have hpos : 1 ≤ (ser pc t).length := by
      cases t with
      | leaf j => rw [ser]; obtain ⟨c, e | ⟨e, _⟩⟩ := hs j <;> rw [e] <;> simp
      | node cs => rw [ser]; simp
    obtain ⟨r, c1, hRel, hr1, hr2, hrun⟩ := T_ok t o k st e lk a b _ _ hu hx ho hok1 hp1 he hab
    have hin : ∀ (j : Nat) (v : U), k + (uT pc o t).length ≤ j → j < k + (uT pc o t).length + (uTs pc (o + (ser pc t).length) ts).length → us[j]? = some v → v.1 < (((o + (ser pc t).length + (sers pc ts).length + 1) - 1 : Nat) : Int) := by
      intro j v h1 h2 h3
      have := uTs_in hs ts _ v (drop_in hu2 h1 h2 h3)
      simpa using this
    rw [vals, dues]
    generalize hv : val ws (!par st) t = v at hRel
    have hmb : (mv st.length r e).bg = e.bg := mv_b _ _ _
    -- the machine goes on, or cuts
    have go : ∀ (a1 b1 : Nat), Enc (mv st.length r e) a1 b1 → (a1 < b1 → ∃ e' a' b' c, Enc e' a' b' ∧ e'.bg = e.bg ∧ Out (par st) a1 b1 (vals ws (!par st) ts) a' b' ∧
        ∀ n, srun x us (n + c) k (e :: st) lk = srun x us n (k + (uT pc o t).length + (uTs pc (o + (ser pc t).length) ts).length) (e' :: st) (lk ++ (due ws (!par st) a b t ++ dues ws (par st) a1 b1 ts).map (fun k => (P k : Int)))) ∧
        (b1 ≤ a1 → ∀ n, srun x us (n + c1) k (e :: st) lk = srun x us n (k + (uT pc o t).length + (uTs pc (o + (ser pc t).length) ts).length) (mv st.length r e :: st) (lk ++ (due ws (!par st) a b t).map (fun k => (P k : Int)))) := by
      intro a1 b1 hE1
      refine ⟨fun hlt => ?_, fun hle n => ?_⟩
      · obtain ⟨e', a', b', c, g1, g2, g3, _, g5⟩ := Ts_ok ts (o + (ser pc t).length) (k + (uT pc o t).length) st (mv st.length r e) (lk ++ (due ws (!par st) a b t).map (fun k => (P k : Int))) a1 b1 post rest hu2 hx2 ho2 hok2 hp2 hE1 hlt (by rw [hmb]; exact C) (by rw [hmb]; omega)
        refine ⟨e', a', b', c + c1, g1, g2.trans hmb, g3, fun n => ?_⟩
        have hc0 : cutP (mv st.length r e) = false := by rw [cut_enc hE1]; simp; omega
        rw [← Nat.add_assoc, hrun (n + c), tell_no hc0, g5 n, List.map_append, List.append_assoc]
      · have hc1 : cutP (mv st.length r e) = true := by rw [cut_enc hE1]; simp; omega
        rw [hrun n, tell_cut C rfl (by omega) (by omega) (by omega) hin hc1]
    cases hpar : par st with
    | true =>
      have hm : st.length % 2 = 0 := by unfold par at hpar; simpa using hpar
      rw [hpar] at go hv
      obtain ⟨g1, g2⟩ := go _ _ (mv_up he hm hr1 hr2)
      have hcase : (max a r < b ∧ max a r = max a v) ∨ (b ≤ max a r ∧ b ≤ max a v) := rel_up hab hRel
      simp only [Bool.not_true, if_true] at g1 g2 ⊢
      rcases hcase with ⟨hlt, heq⟩ | ⟨h1, h2⟩
      · obtain ⟨e', a', b', c, q1, q2, q3, q5⟩ := g1 hlt
        rw [heq] at q3 q5
        refine ⟨e', a', b', c, q1, q2, ?_, fun _ => ?_, q5⟩
        · unfold Out at q3 ⊢
          rw [if_pos rfl] at q3 ⊢
          rw [List.foldl_cons]
          omega
        · unfold Out at q3
          rw [if_pos rfl] at q3
          omega
      · refine ⟨mv st.length r e, max a r, b, c1, mv_up he hm hr1 hr2, hmb, ?_, fun _ => by omega, fun n => ?_⟩
        · unfold Out
          rw [if_pos rfl, List.foldl_cons]
          have := le_fold_max (vals ws false ts) (max a v)
          omega
        · rw [g2 h1 n, dues_cut ts h2, List.append_nil]
    | false =>
      have hm : ¬ st.length % 2 = 0 := by unfold par at hpar; simpa using hpar
      rw [hpar] at go hv
      obtain ⟨g1, g2⟩ := go _ _ (mv_dn he hm hr1 hr2)
      have hcase : (a < min b r ∧ min b r = min b v) ∨ (min b r ≤ a ∧ min b v ≤ a) := rel_dn hab hRel
      simp only [Bool.not_false, Bool.false_eq_true, if_false] at g1 g2 ⊢
      rcases hcase with ⟨hlt, heq⟩ | ⟨h1, h2⟩
      · obtain ⟨e', a', b', c, q1, q2, q3, q5⟩ := g1 hlt
        rw [heq] at q3 q5
        refine ⟨e', a', b', c, q1, q2, ?_, fun _ => ?_, q5⟩
        · unfold Out at q3 ⊢
          rw [if_neg (by decide)] at q3 ⊢
          rw [List.foldl_cons]
          omega
        · unfold Out at q3
          rw [if_neg (by decide)] at q3
          omega
      · refine ⟨mv st.length r e, a, min b r, c1, mv_dn he hm hr1 hr2, hmb, ?_, fun _ => by omega, fun n => ?_⟩
        · unfold Out
          rw [if_neg (by decide), List.foldl_cons]
          have := fold_min_le (vals ws true ts) (min b v)
          omega
        · rw [g2 h1 n, dues_cut ts h2, List.append_nil]
end
end
end Mine

namespace Mine
theorem best_mem {up : Bool} {vs : List Nat} (h : vs ≠ []) : best up vs ∈ vs := by
  cases vs with
  | nil => exact absurd rfl h
  | cons x r =>
    cases up with
    | true =>
      show r.foldl max x ∈ _
      rcases (foldl_max r x).2.2 with e | e
      · rw [e]; exact .head _
      · exact .tail _ e
    | false =>
      show r.foldl min x ∈ _
      rcases (foldl_min r x).2.2 with e | e
      · rw [e]; exact .head _
      · exact .tail _ e
mutual
theorem val_in {ws : List Nat} (hw : ∀ k, k < ws.length → 1 ≤ ws.getD k 0 ∧ ws.getD k 0 ≤ 255) : ∀ (t : Tr) (up : Bool), okT ws.length t → 1 ≤ val ws up t ∧ val ws up t ≤ 255
  | .leaf k, up, h => by rw [val]; exact hw k h
  | .node cs, up, h => by
    obtain ⟨hne, _, hc⟩ := h
    rw [val]
    exact vals_in hw cs (!up) hc _ (best_mem (vals_ne hne))
theorem vals_in {ws : List Nat} (hw : ∀ k, k < ws.length → 1 ≤ ws.getD k 0 ∧ ws.getD k 0 ≤ 255) : ∀ (ts : List Tr) (up : Bool), okTs ws.length ts → ∀ v ∈ vals ws up ts, 1 ≤ v ∧ v ≤ 255
  | [], up, _, v, h => by rw [vals] at h; cases h
  | t :: ts, up, hk, v, h => by
    rw [vals] at h
    rcases List.mem_cons.mp h with e | e
    · rw [e]; exact val_in hw t up hk.1
    · exact vals_in hw ts up hk.2 v e
end
mutual
theorem due_lt {ws : List Nat} {n : Nat} : ∀ (t : Tr) (up : Bool) (lo hi : Nat), okT n t → ∀ k ∈ due ws up lo hi t, k < n
  | .leaf j, up, lo, hi, h, k, hk => by
    rw [due] at hk
    split at hk
    · cases hk
    · rw [List.mem_singleton] at hk; subst hk; exact h
  | .node cs, up, lo, hi, h, k, hk => by
    rw [due] at hk
    split at hk
    · cases hk
    · exact dues_lt cs up lo hi h.2.2 k hk
theorem dues_lt {ws : List Nat} {n : Nat} : ∀ (ts : List Tr) (up : Bool) (lo hi : Nat), okTs n ts → ∀ k ∈ dues ws up lo hi ts, k < n
  | [], up, lo, hi, h, k, hk => by rw [dues] at hk; cases hk
  | t :: ts, up, lo, hi, h, k, hk => by
    rw [dues] at hk
    rcases List.mem_append.mp hk with e | e
    · exact due_lt t _ lo hi h.1 k e
    · split at e
      · exact dues_lt ts up _ _ h.2 k e
      · exact dues_lt ts up _ _ h.2 k e
end
section
variable {pc : Nat → List Nat} (hs : ∀ k, Shape (pc k))
include hs
theorem pc_pos (k : Nat) : 1 ≤ (pc k).length := by obtain ⟨c, e | ⟨e, _⟩⟩ := hs k <;> rw [e] <;> simp
mutual
theorem hgt_ser : ∀ (t : Tr), hgt t ≤ (ser pc t).length
  | .leaf k => by rw [hgt]; omega
  | .node cs => by rw [hgt, ser]; have := hgts_ser cs; simp; omega
theorem hgts_ser : ∀ (ts : List Tr), hgts ts ≤ (sers pc ts).length
  | [] => by rw [hgts]; omega
  | t :: ts => by rw [hgts, sers, List.length_append]; have := hgt_ser t; have := hgts_ser ts; omega
end
mutual
theorem leaves_ser : ∀ (t : Tr), leaves t ≤ (ser pc t).length
  | .leaf k => by rw [leaves, ser]; exact pc_pos hs k
  | .node cs => by rw [leaves, ser]; have := leavess_ser cs; simp; omega
theorem leavess_ser : ∀ (ts : List Tr), leavess ts ≤ (sers pc ts).length
  | [] => by rw [leavess]; omega
  | t :: ts => by rw [leavess, sers, List.length_append]; have := leaves_ser t; have := leavess_ser ts; omega
end
end
mutual
theorem no34 {pc : Nat → List Nat} (hq : ∀ k, 34 ∉ pc k) : ∀ (t : Tr), 34 ∉ ser pc t
  | .leaf k => by rw [ser]; exact hq k
  | .node cs => by
    have := no34s hq cs
    rw [ser]
    simp [this]
theorem no34s {pc : Nat → List Nat} (hq : ∀ k, 34 ∉ pc k) : ∀ (ts : List Tr), 34 ∉ sers pc ts
  | [] => by rw [sers]; simp
  | t :: ts => by
    have h1 := no34 hq t
    have h2 := no34s hq ts
    rw [sers]
    simp [h1, h2]
end

theorem root_ok {pc : Nat → List Nat} (hs : ∀ k, Shape (pc k)) {P : Nat → Nat} {ws : List Nat} (hw : ∀ k, k < ws.length → Leaf pc ws k) {cs : List Tr} (hok : okT ws.length (.node cs)) (hp : PlOK pc P 0 (.node cs)) :
    ∃ N, srun (ser pc (.node cs)) (unitsF 0 false (ser pc (.node cs))) N 0 [] [] = some (val ws true (.node cs), (due ws true 0 256 (.node cs)).map (fun k => (P k : Int))) := by
  obtain ⟨hne, hcl, hokc⟩ := hok
  have hus : unitsF 0 false (ser pc (.node cs)) = uT pc 0 (.node cs) ++ [] := by
    have := units_T hs (.node cs) 0 []
    rw [List.append_nil] at this
    rw [this]
    rfl
  generalize unitsF 0 false (ser pc (.node cs)) = us at hus
  have hu' : us.drop 0 = [(((0 : Nat) : Int), ⟨#[40]⟩)] ++ (uTs pc (0 + 1) cs ++ (((0 + 1 + (sers pc cs).length : Nat) : Int), ⟨#[41]⟩) :: []) := by
    rw [List.drop_zero, hus, List.append_nil, uT]; rfl
  have hopen := drop_at (r := uTs pc (0 + 1) cs ++ (((0 + 1 + (sers pc cs).length : Nat) : Int), ⟨#[41]⟩) :: []) hu'
  have hu1 : us.drop (0 + 1) = uTs pc (0 + 1) cs ++ (((0 + 1 + (sers pc cs).length : Nat) : Int), ⟨#[41]⟩) :: [] := drop_app hu'
  have hclose := drop_at (drop_app hu1)
  have hx : (ser pc (.node cs)).drop 0 = ser pc (.node cs) ++ [] := by simp
  have C := ctx_of hs hx hclose (Nat.zero_le _)
  have hx1 : (ser pc (.node cs)).drop (0 + 1) = sers pc cs ++ [41] := by rw [ser]; rfl
  obtain ⟨e', a', b', c, hE, hbg, hO, hR, hrun⟩ := Ts_ok hs hw cs (0 + 1) (0 + 1) [] ⟨256, 0, 0⟩ [] 0 256 [] [41] hu1 hx1 (by rw [ser]; simp) hokc hp ⟨rfl, rfl, by decide, by decide, by decide⟩ (by decide) C (by decide)
  refine ⟨1 + c + 1, ?_⟩
  rw [show 1 + c + 1 = (0 + 1 + c) + 1 by omega, srun_open hopen]
  show srun _ us (0 + 1 + c) (0 + 1) [⟨256, 0, 0⟩] [] = _
  rw [hrun (0 + 1), srun_close0 hclose]
  have hvn := vals_ne (ws := ws) (up := false) hne
  have hv := vals_in (fun k hk => (hw k hk).2) cs false hokc _ (best_mem (up := true) hvn)
  have ha1 : 1 ≤ a' := hR hne
  have hlo : e'.lo = a' := by rw [hE.lo, if_neg (by omega)]
  unfold Out at hO
  rw [if_pos (by rfl)] at hO
  rw [fold_best1 (by exact hvn)] at hO
  have ha : a' = val ws true (.node cs) := by
    rw [val]
    have : vals ws (!par []) cs = vals ws false cs := rfl
    rw [this] at hO
    show a' = best true (vals ws false cs)
    generalize best true (vals ws false cs) = M at hO hv
    have h5 := hE.a1
    omega
  have hd : due ws true 0 256 (.node cs) = dues ws (par []) 0 256 cs := by rw [due, if_neg (by decide)]; rfl
  rw [hlo, ha, hd, List.nil_append]
end Mine

namespace Mine
section
variable (pc : Nat → List Nat)
def serO : List (List Tr) → List Nat
  | [] => []
  | c :: r => serO r ++ 40 :: sers pc c
def PlO (P : Nat → Nat) : List (List Tr) → Prop
  | [] => True
  | c :: r => PlO P r ∧ PlOKs pc P ((serO pc r).length + 1) c
end
def closeT : List Tr → List (List Tr) → Tr
  | c, [] => .node c
  | c, p :: r => closeT (p ++ [.node c]) r
section
variable {pc : Nat → List Nat} {P : Nat → Nat} {N : Nat}
theorem sers_app : ∀ (a b : List Tr), sers pc (a ++ b) = sers pc a ++ sers pc b
  | [], b => by rw [sers]; rfl
  | t :: a, b => by
    show sers pc (t :: (a ++ b)) = _
    rw [sers, sers, sers_app a b, List.append_assoc]
theorem sers_one (t : Tr) : sers pc [t] = ser pc t := by rw [sers, sers, List.append_nil]
theorem PlOKs_app (t : Tr) : ∀ (a : List Tr) (o : Nat), PlOKs pc P o a → PlOK pc P (o + (sers pc a).length) t → PlOKs pc P o (a ++ [t])
  | [], o, _, h => by
    show PlOKs pc P o [t]
    rw [PlOKs, PlOKs]
    exact ⟨by simpa [sers] using h, trivial⟩
  | x :: a, o, h1, h2 => by
    show PlOKs pc P o (x :: (a ++ [t]))
    rw [PlOKs] at h1 ⊢
    refine ⟨h1.1, PlOKs_app t a _ h1.2 ?_⟩
    rw [sers, List.length_append] at h2
    rw [Nat.add_assoc]
    exact h2
theorem okTs_app (t : Tr) : ∀ (a : List Tr), okTs N a → okT N t → okTs N (a ++ [t])
  | [], _, h => ⟨h, trivial⟩
  | x :: a, h1, h2 => ⟨h1.1, okTs_app t a h1.2 h2⟩
theorem ser_closeT : ∀ (r : List (List Tr)) (c : List Tr), ser pc (closeT c r) = serO pc (c :: r) ++ List.replicate (r.length + 1) 41
  | [], c => by rw [closeT, ser, serO, serO]; rfl
  | p :: r, c => by
    rw [closeT, ser_closeT r]
    rw [serO, serO, serO, sers_app, sers_one, ser]
    simp [List.replicate_succ]
theorem PlOK_closeT : ∀ (r : List (List Tr)) (c : List Tr), PlO pc P (c :: r) → PlOK pc P 0 (closeT c r)
  | [], c, h => by
    rw [closeT, PlOK]
    have := h.2
    rw [serO] at this
    simpa using this
  | p :: r, c, h => by
    rw [closeT]
    refine PlOK_closeT r _ ⟨h.1.1, PlOKs_app _ _ _ h.1.2 ?_⟩
    have := h.2
    rw [serO, List.length_append, List.length_cons] at this
    rw [PlOK]
    rw [show (serO pc r).length + 1 + (sers pc p).length + 1 = (serO pc r).length + ((sers pc p).length + 1) + 1 by omega]
    exact this
theorem closeT_node : ∀ (r : List (List Tr)) (c : List Tr), ∃ cs, closeT c r = .node cs
  | [], c => ⟨c, rfl⟩
  | p :: r, c => closeT_node r _
end
section
variable {pc : Nat → List Nat} (hs : ∀ k, Shape (pc k))
include hs
theorem ser_pos : ∀ (t : Tr), 1 ≤ (ser pc t).length
  | .leaf k => by rw [ser]; exact pc_pos hs k
  | .node cs => by rw [ser]; simp
theorem len_sers : ∀ (ts : List Tr), ts.length ≤ (sers pc ts).length
  | [] => by simp
  | t :: ts => by
    rw [sers, List.length_append, List.length_cons]
    have := ser_pos hs t
    have := len_sers ts
    omega
theorem len_serO : ∀ (op : List (List Tr)) (c : List Tr), c ∈ op → c.length ≤ (serO pc op).length
  | [], c, h => by cases h
  | x :: r, c, h => by
    rw [serO, List.length_append, List.length_cons]
    rcases List.mem_cons.mp h with e | e
    · subst e; have := len_sers hs c; omega
    · have := len_serO r c e; omega
theorem ok_closeT {N : Nat} : ∀ (r : List (List Tr)) (c : List Tr), c ≠ [] → (∀ x ∈ c :: r, okTs N x) → (serO pc (c :: r)).length + r.length ≤ 95 → okT N (closeT c r)
  | [], c, hc, hk, hz => by
    have := len_serO hs [c] c (.head _)
    rw [closeT]
    exact ⟨hc, by simp at hz; omega, hk c (.head _)⟩
  | p :: r, c, hc, hk, hz => by
    rw [closeT]
    have h1 := len_serO hs (c :: p :: r) c (.head _)
    refine ok_closeT r _ (by simp) (fun x hx => ?_) ?_
    · rcases List.mem_cons.mp hx with e | e
      · subst e
        exact okTs_app _ _ (hk p (by simp)) ⟨hc, by simp at hz; omega, hk c (.head _)⟩
      · exact hk x (by simp [e])
    · rw [serO, sers_app, sers_one, ser]
      rw [serO, serO] at hz
      simp at hz ⊢
      omega
end

structure Inv (pc : Nat → List Nat) (N k T : Nat) (d : Dr) : Prop where
  tx : d.tx = serO pc d.op
  ne : d.op ≠ []
  ol : d.op.length ≤ 4
  pl : d.pl.length = k
  tl : d.tx.length ≤ T
  pk : ∀ P : Nat → Nat, (∀ j, j < k → P j = d.pl.getD j 0) → PlO pc P d.op
  ok : ∀ c ∈ d.op, okTs N c
def Full (d : Dr) : Prop := ∀ c r, d.op = c :: r → c ≠ []
section
variable {pc : Nat → List Nat} {N k T v : Nat} {d : Dr}
theorem Inv.up (h : Inv pc N k T d) {T' : Nat} (hT : T ≤ T') : Inv pc N k T' d := ⟨h.tx, h.ne, h.ol, h.pl, Nat.le_trans h.tl hT, h.pk, h.ok⟩
theorem Inv.cl (hs : ∀ k, Shape (pc k)) (h : Inv pc N k T d) : ∀ c ∈ d.op, c.length ≤ T := fun c hc => by
  have := len_serO hs d.op c hc
  rw [← h.tx] at this
  exact Nat.le_trans this h.tl
theorem inv_open (h : Inv pc N k T d) : Inv pc N k (T + 1) (dOpen v d) := by
  unfold dOpen
  split
  · rename_i hc
    refine ⟨?_, by simp, by simp; omega, h.pl, by simp; exact h.tl, fun P hP => ⟨h.pk P hP, trivial⟩, fun c hc => ?_⟩
    · show d.tx ++ [40] = serO pc ([] :: d.op)
      rw [serO, sers, h.tx]
    · rcases List.mem_cons.mp hc with e | e
      · subst e; trivial
      · exact h.ok c e
  · exact h.up (Nat.le_succ _)
theorem piece_len (v : Nat) : 1 ≤ (piece v).length ∧ (piece v).length ≤ 2 := by unfold piece; split <;> simp
theorem inv_leaf (h : Inv pc N k T d) (hk : k < N) (hp : pc k = piece v) : Inv pc N (k + 1) (T + 2) (dLeaf k v d) ∧ Full (dLeaf k v d) := by
  obtain ⟨op, tx, pl⟩ := d
  obtain ⟨h1, h2, h3, h4, h5, h6, h7⟩ := h
  dsimp only at h1 h2 h3 h4 h5 h6 h7
  have hpl := piece_len v
  cases op with
  | nil => exact absurd rfl h2
  | cons c r =>
    have hl : tx.length = (serO pc r).length + 1 + (sers pc c).length := by rw [h1, serO]; simp; omega
    refine ⟨⟨?_, by simp [dLeaf, addLeaf], by simpa [dLeaf, addLeaf] using h3, by simp [dLeaf, h4], by simp [dLeaf]; omega, fun P hP => ?_, fun x hx => ?_⟩, ?_⟩
    · show tx ++ piece v = serO pc ((c ++ [.leaf k]) :: r)
      rw [serO, sers_app, sers_one, ser, hp, h1, serO]
      simp
    · have hP0 : ∀ j, j < k → P j = pl.getD j 0 := fun j hj => by
        have := hP j (by omega)
        rw [this]
        show (pl ++ [_]).getD j 0 = _
        rw [List.getD_eq_getElem?_getD, List.getD_eq_getElem?_getD, List.getElem?_append_left (by omega)]
      have hPk : P k = (tx ++ piece v).length - 1 := by
        have := hP k (by omega)
        rw [this]
        show (pl ++ [_]).getD k 0 = _
        rw [List.getD_eq_getElem?_getD, List.getElem?_append_right (by omega)]
        simp [h4]
      obtain ⟨q1, q2⟩ := h6 P hP0
      refine ⟨q1, PlOKs_app _ _ _ q2 ?_⟩
      rw [PlOK, hPk, hp, List.length_append, hl]
    · rcases List.mem_cons.mp hx with e | e
      · subst e; exact okTs_app _ _ (h7 c (.head _)) hk
      · exact h7 x (.tail _ e)
    · intro c' r' e
      have : (c ++ [Tr.leaf k]) :: r = c' :: r' := e
      rw [List.cons.injEq] at this
      rw [← this.1]
      simp
theorem inv_close (hs : ∀ k, Shape (pc k)) (h : Inv pc N k T d) (hf : Full d) (hT : T ≤ 100) : Inv pc N k (T + 1) (dClose v d) ∧ Full (dClose v d) := by
  by_cases h4 : v % 4 = 3
  case neg =>
    have e : dClose v d = d := by
      unfold dClose
      split
      · rw [if_neg h4]
      · rfl
    rw [e]
    exact ⟨h.up (Nat.le_succ _), hf⟩
  obtain ⟨op, tx, pl⟩ := d
  match op, h, hf with
  | [], h, hf => exact ⟨h.up (Nat.le_succ _), hf⟩
  | [c], h, hf => exact ⟨h.up (Nat.le_succ _), hf⟩
  | c :: p :: r, h, hf =>
    have e : dClose v ⟨c :: p :: r, tx, pl⟩ = ⟨(p ++ [.node c]) :: r, tx ++ [41], pl⟩ := by
      unfold dClose
      dsimp only
      rw [if_pos h4]
    rw [e]
    have hcl := h.cl hs c (.head _)
    obtain ⟨h1, h2, h3, h5, h6, h7, h8⟩ := h
    dsimp only at h1 h2 h3 h5 h6 h7 h8
    refine ⟨⟨?_, by simp, by simp at h3 ⊢; omega, h5, by simp; exact h6, fun P hP => ?_, fun x hx => ?_⟩, ?_⟩
    · show tx ++ [41] = serO pc ((p ++ [.node c]) :: r)
      rw [h1, serO, serO, serO, sers_app, sers_one, ser]
      simp
    · obtain ⟨⟨q1, q2⟩, q3⟩ := h7 P hP
      refine ⟨q1, PlOKs_app _ _ _ q2 ?_⟩
      rw [serO, List.length_append, List.length_cons] at q3
      rw [PlOK]
      rw [show (serO pc r).length + 1 + (sers pc p).length + 1 = (serO pc r).length + ((sers pc p).length + 1) + 1 by omega]
      exact q3
    · rcases List.mem_cons.mp hx with e | e
      · subst e
        exact okTs_app _ _ (h8 p (by simp)) ⟨hf c _ rfl, by omega, h8 c (.head _)⟩
      · exact h8 x (by simp [e])
    · intro c' r' e
      have : (p ++ [Tr.node c]) :: r = c' :: r' := e
      rw [List.cons.injEq] at this
      rw [← this.1]
      simp
theorem inv_run (hs : ∀ k, Shape (pc k)) : ∀ (vs : List Nat) (k T : Nat) (d : Dr), Inv pc N k T d → (1 ≤ k → Full d) → (∀ i v, vs[i]? = some v → pc (k + i) = piece v) → k + vs.length ≤ N → T + 4 * vs.length ≤ 97 →
    Inv pc N (k + vs.length) (T + 4 * vs.length) (drun k vs d) ∧ (1 ≤ k + vs.length → Full (drun k vs d))
  | [], k, T, d, h, hf, _, _, _ => ⟨h, hf⟩
  | v :: vs, k, T, d, h, hf, hp, hN, hT => by
    simp only [List.length_cons] at hN hT ⊢
    obtain ⟨a1, a2⟩ := inv_leaf (v := v) (inv_open (v := v) h) (by omega) (hp 0 v rfl)
    obtain ⟨b1, b2⟩ := inv_close (v := v) hs a1 a2 (by omega)
    have := inv_run hs vs (k + 1) (T + 4) (dstep k v d) b1 (fun _ => b2) (fun i u hu => by rw [Nat.add_assoc, Nat.add_comm 1 i]; exact hp (i + 1) u (by simpa using hu)) (by omega) (by omega)
    rw [show k + (vs.length + 1) = k + 1 + vs.length by omega, show T + 4 * (vs.length + 1) = T + 4 + 4 * vs.length by omega]
    exact this
end

def lad24 : List Nat := [7, 8, 9, 10, 11, 12, 13, 14, 15, 16, 17, 18, 19, 20, 21, 22, 23, 24, 25, 26, 31, 32, 49, 54]
def wsOf (vs : List Nat) : List Nat := vs.map fun v => lad24.getD (v / 4 % 24) 0
def pcOf (vs : List Nat) (k : Nat) : List Nat := piece (vs.getD k 0)
def d0 : Dr := ⟨[[]], [40], []⟩
theorem sign_tab : ∀ i : Fin 24, signs24.getD i.val 0 ≠ 92 ∧ signs24.getD i.val 0 ≠ 34 ∧ tok (signs24.getD i.val 0) = some (lad24.getD i.val 0) ∧ 1 ≤ lad24.getD i.val 0 ∧ lad24.getD i.val 0 ≤ 255 := by decide +kernel
theorem sgn_tab (v : Nat) : sgn v ≠ 92 ∧ sgn v ≠ 34 ∧ tok (sgn v) = some (lad24.getD (v / 4 % 24) 0) ∧ 1 ≤ lad24.getD (v / 4 % 24) 0 ∧ lad24.getD (v / 4 % 24) 0 ≤ 255 := sign_tab ⟨v / 4 % 24, Nat.mod_lt _ (by decide)⟩
theorem shape_piece (v : Nat) : Shape (piece v) := by
  unfold piece
  cases h : esc v with
  | true => exact ⟨sgn v, .inl rfl⟩
  | false =>
    refine ⟨sgn v, .inr ⟨rfl, (sgn_tab v).1, ?_, ?_⟩⟩ <;> intro e <;> simp [esc, e] at h
theorem last_piece (v : Nat) : lastSign ⟨(piece v).toArray⟩ = some (sgn v) := by
  unfold lastSign piece
  split <;> rfl
theorem no34_piece (v : Nat) : 34 ∉ piece v := by
  have := (sgn_tab v).2.1
  unfold piece
  split <;> simp [Ne.symm this]
theorem ws_at {vs : List Nat} {k : Nat} (h : k < vs.length) : (wsOf vs).getD k 0 = lad24.getD (vs.getD k 0 / 4 % 24) 0 := by
  unfold wsOf
  simp [List.getD, h]
theorem leaf_ok (vs : List Nat) : ∀ k, k < (wsOf vs).length → Leaf (pcOf vs) (wsOf vs) k := by
  intro k hk
  have hk' : k < vs.length := by simpa [wsOf] using hk
  obtain ⟨_, _, h1, h2, h3⟩ := sgn_tab (vs.getD k 0)
  unfold Leaf pcOf
  rw [last_piece, ws_at hk']
  exact ⟨h1, h2, h3⟩

structure Plain (vs : List Nat) (d : Dr) (c : List Tr) (r : List (List Tr)) : Prop where
  op : d.op = c :: r
  node : ∃ cs, closeT c r = .node cs
  ol : r.length + 1 ≤ 4
  tx : d.tx ++ List.replicate (r.length + 1) 41 = ser (pcOf vs) (closeT c r)
  tl : d.tx.length ≤ 90
  ok : okT vs.length (closeT c r)
  pl : d.pl.length = vs.length
  sz : (ser (pcOf vs) (closeT c r)).length ≤ 100
  hg : hgt (closeT c r) ≤ 100
  lv : leaves (closeT c r) ≤ 100
  q : 34 ∉ ser (pcOf vs) (closeT c r)
  run : ∃ N, srun (ser (pcOf vs) (closeT c r)) (unitsF 0 false (ser (pcOf vs) (closeT c r))) N 0 [] [] = some (val (wsOf vs) true (closeT c r), (due (wsOf vs) true 0 256 (closeT c r)).map (fun k => ((d.pl.getD k 0 : Nat) : Int)))
  due : ∀ k ∈ due (wsOf vs) true 0 256 (closeT c r), k < vs.length
  val : 1 ≤ val (wsOf vs) true (closeT c r) ∧ val (wsOf vs) true (closeT c r) ≤ 255
theorem inv_d0 (pc : Nat → List Nat) (N : Nat) : Inv pc N 0 1 d0 := ⟨rfl, by simp [d0], by simp [d0], rfl, by simp [d0], fun P _ => ⟨trivial, trivial⟩, fun c hc => by simp [d0] at hc; subst hc; trivial⟩
theorem plain_ok (vs : List Nat) (hne : vs ≠ []) (hl : vs.length ≤ 20) : ∃ c r, Plain vs (drun 0 vs d0) c r := by
  have hs : ∀ k, Shape (pcOf vs k) := fun k => shape_piece _
  have hpos : 1 ≤ vs.length := List.length_pos_iff.mpr hne
  obtain ⟨I, F⟩ := inv_run (pc := pcOf vs) (N := vs.length) hs vs 0 1 d0 (inv_d0 _ _) (fun h => by omega) (fun i v hv => by rw [Nat.zero_add]; unfold pcOf; simp [List.getD, hv]) (by omega) (by omega)
  rw [Nat.zero_add] at I F
  have F := F hpos
  generalize drun 0 vs d0 = d at I F
  obtain ⟨op, tx, pl⟩ := d
  obtain ⟨h1, h2, h3, h4, h5, h6, h7⟩ := I
  dsimp only at h1 h2 h3 h4 h5 h6 h7
  cases op with
  | nil => exact absurd rfl h2
  | cons c r =>
    simp only [List.length_cons] at h3
    have hlen : (serO (pcOf vs) (c :: r)).length + r.length ≤ 95 := by rw [← h1]; omega
    have hok := ok_closeT hs r c (F c r rfl) h7 hlen
    have hser := ser_closeT (pc := pcOf vs) r c
    have hsz : (ser (pcOf vs) (closeT c r)).length ≤ 100 := by rw [hser]; simp; omega
    have hP := PlOK_closeT r c (h6 (fun k => pl.getD k 0) (fun _ _ => rfl))
    have hwl : (wsOf vs).length = vs.length := by simp [wsOf]
    refine ⟨c, r, rfl, closeT_node r c, by omega, by rw [hser, ← h1], by show tx.length ≤ 90; omega, hok, h4, hsz, Nat.le_trans (hgt_ser hs _) hsz, Nat.le_trans (leaves_ser hs _) hsz, no34 (fun k => no34_piece _) _, ?_, due_lt _ _ _ _ hok, ?_⟩
    · obtain ⟨cs, hcs⟩ := closeT_node r c
      rw [hcs] at hok hP ⊢
      exact root_ok hs (leaf_ok vs) (by rw [hwl]; exact hok) hP
    · exact val_in (fun k hk => (leaf_ok vs k hk).2) _ _ (by rw [hwl]; exact hok)
end Mine

namespace Mine
section
variable {w : World} {A : Around} {mg mb : Str → Option Value} {E : Value → Shared → Prop} {s₀ s : Shared} {d : DB} {m : Str → Option Value} {ads : List Addr} {op : List (List Tr)} {pls : List Nat} {cd : Value}

theorem mul41 {n : Nat} {t u : Tok} {Q : Value → Shared → Prop} (h1 : 1 ≤ n) (h4 : n ≤ 4) (h : ∀ t' tk, Q (.str ⟨(List.replicate n 41).toArray⟩ t') { s with toks := tk }) :
    wpAny (model PR w) A (binaryOp .Mult (.str ⟨#[41]⟩ t) (.int (n : Int) u)) Q E s := by
  have hz : (4 : Nat) ≤ sizeLine := Nat.le_of_ble_eq_true rfl
  rcases (by omega : n = 1 ∨ n = 2 ∨ n = 3 ∨ n = 4) with rfl | rfl | rfl | rfl
  · exact P.mul_str (by decide) (by decide) (by decide) (h t s.toks)
  · exact P.mul_str (by decide) (by decide) (by decide +kernel) ⟨(by show 2 ≤ sizeLine; omega), h _ _⟩
  · exact P.mul_str (by decide) (by decide) (by decide +kernel) ⟨(by show 3 ≤ sizeLine; omega), h _ _⟩
  · exact P.mul_str (by decide) (by decide) (by decide +kernel) ⟨(by show 4 ≤ sizeLine; omega), h _ _⟩

theorem d_end {Z0 : Addr} {x : Str} {Q : Flow → Shared → Prop} (G : GX w mg mb s₀.heap) (σ : DW s₀ d m [] [] ads op pls s) (n : ND d.C d.P Z0 x m) (hz : op.length ≤ 4) (hne : 1 ≤ op.length) (hxz : x.cps.size ≤ 500)
    (h : ∀ h' tk r t, (∀ b o, s.heap.get? b = some o → h'.get? b = some o) → h'.get? r = some { cls := .type "tuple", data := .seq #[.ref Z0, .str (x ++ ⟨(List.replicate op.length 41).toArray⟩) t, .ref d.P] } → Q (.ret (.ref r)) { s with heap := h', toks := tk }) :
    wpAny (model PR w) A (execs ((fnBody 65).drop 5) (eD d.L cd)) Q E s := by
  have hlen := σ.op.len
  obtain ⟨cC, hC⟩ := σ.ch
  obtain ⟨tt, ht⟩ := n.text
  have hz9 : (600 : Nat) ≤ sizeLine := Nat.le_of_ble_eq_true rfl
  refine wpAny_execs_cons (wpAny_Return_some (wpAny_Tuple (spliced_more (dw_name σ n.tree (spliced_more (wpAny_BinOp (dw_name σ ht (wpAny_BinOp (wpAny_Constant_str (wpAny_Call_NameR (ev_bname (G.gc.keeps σ.base) b_len (callWith_builtin1 (dw_name σ.tk n.chain (Calls.call_len_list ⟨_, hC, rfl, _, rfl⟩ (by simp; omega) ?_))))))))))))))
  rw [show (((ads.reverse.map Value.ref).toArray.size : Nat) : Int) = (op.length : Int) by simp; omega]
  refine mul41 hne hz fun t' tk => ?_
  refine add_str (fun t7 tk7 => spliced_more (dw_name ⟨σ.base, σ.ns, σ.ch, σ.pl, σ.op, σ.nd, σ.ap, σ.os, σ.bare⟩ n.places (spliced_none ⟨Nat.le_trans (by decide : 3 ≤ 600) hz9, ?_⟩))) ?_
  · exact h _ _ _ t7 (fun b o e => Heap.get?_push_of_some _ e) (Heap.get?_push_size _ rfl)
  · show x.cps.size + ((List.replicate op.length 41).toArray).size ≤ sizeLine
    simp
    omega
end
end Mine

namespace Mine
def dTarget : Expr := match (fnBody 65)[4]? with | some (Stmt.For (target := t) ..) => t | _ => default
theorem dOpen_pl (v : Nat) (d : Dr) : (dOpen v d).pl = d.pl := by unfold dOpen; split <;> rfl
theorem dClose_pl (v : Nat) (d : Dr) : (dClose v d).pl = d.pl := by
  unfold dClose
  split
  · split <;> rfl
  · rfl
theorem dstep_pl (k v : Nat) (d : Dr) : (dstep k v d).pl = (dLeaf k v (dOpen v d)).pl := dClose_pl _ _
section
variable {w : World} {A : Around} {mg mb : Str → Option Value} {E : Value → Shared → Prop} {s₀ s : Shared} {d : DB} {m : Str → Option Value} {ads : List Addr} {cd : Value}

theorem d_turn {Z0 : Addr} {x : Str} {v k N T : Nat} {tv tk : Tok} {pc : Nat → List Nat} {D : Dr} {Q : Flow → Shared → Prop} (hs : ∀ k, Shape (pc k)) (G : GX w mg mb s₀.heap) (W : d.Apart s₀.heap) (I : Inv pc N k T D) (hkN : k < N) (hpk : pc k = piece v) (hT : T ≤ 90) (hk20 : k ≤ 20)
    (σ : DW s₀ d m [] [] ads D.op D.pl s) (n : ND d.C d.P Z0 x m) (hx : x.cps.toList = D.tx) (hgl : ads.getLast? = some Z0)
    (hZn : s.heap.get? d.Z ≠ none) (hIn : s.heap.get? d.I ≠ none)
    (hv : m (Str.ofString "v") = some (.int (v : Int) tv)) (hk : m (Str.ofString "k") = some (.int (k : Int) tk))
    (hc : ∀ s' m' ads' x', DW s₀ d m' [] [] ads' (dstep k v D).op (dstep k v D).pl s' → ND d.C d.P Z0 x' m' → x'.cps.toList = (dstep k v D).tx → ads'.getLast? = some Z0 → Its d s s' → Q .next s') :
    wpAny (model PR w) A (execs dBody (eD d.L cd)) Q E s := by
  have hol := σ.op.len
  have hxl : x.cps.size = D.tx.length := by rw [← hx, Array.length_toList]
  have h1 := I.tl
  have h2 := I.ol
  have h3 := I.pl
  have hne0 : ads ≠ [] := fun e => by rw [e] at hgl; cases hgl
  have I1 := inv_open (v := v) I
  obtain ⟨I2, F2⟩ := inv_leaf (v := v) I1 hkN hpk
  have e0 : (⟨D.op, x.cps.toList, D.pl⟩ : Dr) = D := by rw [hx]
  refine d_open G W σ n (by omega) hne0 (by omega) (fun c hc => Nat.le_trans (I.cl hs c hc) (by omega)) hZn hIn hv hk fun s₁ m₁ ads₁ x₁ σ₁ n₁ hx₁ hne₁ hz₁ hl₁ hv₁ hk₁ it₁ => ?_
  rw [e0] at σ₁ hx₁
  have e1 : (⟨(dOpen v D).op, x₁.cps.toList, D.pl⟩ : Dr) = dOpen v D := by rw [hx₁, ← dOpen_pl v D]
  have hx1l : x₁.cps.size = (dOpen v D).tx.length := by rw [← hx₁, Array.length_toList]
  have h4 := I1.tl
  refine d_mid G W σ₁ n₁ hz₁ hne₁ (by omega) (fun c hc => Nat.le_trans (I1.cl hs c hc) (by omega)) (by omega) hv₁ hk₁ fun s₂ m₂ x₂ σ₂ n₂ hx₂ hv₂ it₂ => ?_
  rw [e1] at σ₂ hx₂
  have hx2l : x₂.cps.size = (dLeaf k v (dOpen v D)).tx.length := by rw [← hx₂, Array.length_toList]
  have h5 := I2.tl
  have e2 : (⟨(dLeaf k v (dOpen v D)).op, x₂.cps.toList, (dLeaf k v (dOpen v D)).pl⟩ : Dr) = dLeaf k v (dOpen v D) := by rw [hx₂]
  refine d_close G W σ₂ n₂ hz₁ hne₁ (by omega) hv₂ fun s₃ m₃ ads₃ x₃ σ₃ n₃ hx₃ hne₃ hz₃ hl₃ it₃ => ?_
  rw [e2] at σ₃ hx₃
  exact hc s₃ m₃ ads₃ x₃ (by rw [dstep_pl]; exact σ₃) n₃ hx₃ (by rw [hl₃, hl₁, hgl]) ((it₁.trans it₂).trans it₃)

theorem d_loop {vs : List Nat} {nl : Addr} {vals : List Value} {c : Nat} {Z0 : Addr} {R : Result → Shared → Prop} (hh : A.handled = none) (G : GX w mg mb s₀.heap) (W : d.Apart s₀.heap) (hnl : s₀.heap.get? nl = some (lstObj vals.toArray c)) (hv : All2 NumN vals vs) (hl : vs.length ≤ 20)
    (σ : DW s₀ d m [] [] [Z0] [[]] [] s) (n : ND d.C d.P Z0 ⟨#[40]⟩ m) (he : IsEnum s.heap d.Z d.I 0 .none) (hit : s.heap.IsListIter d.I nl 0)
    (hR : ∀ s' m' ads' x', DW s₀ d m' [] [] ads' (drun 0 vs d0).op (drun 0 vs d0).pl s' → ND d.C d.P Z0 x' m' → x'.cps.toList = (drun 0 vs d0).tx → ads'.getLast? = some Z0 → R (.ok .next) s') :
    codeAny (model PR w) A (.forLoop dTarget (.ref d.Z) dBody [] (eD d.L cd)) R s := by
  have hs : ∀ k, Shape (pcOf vs k) := fun k => shape_piece _
  have hvl := hv.len
  have hnI : nl ≠ d.I := fun z => by rw [z, W.bI] at hnl; cases hnl
  refine codeAny_forLoop_any (fun n' s' => ∃ (i : Nat) (D : Dr) (m : Str → Option Value) (x : Str) (ads : List Addr) (old : Value), n' + i = vs.length + 1 ∧ i ≤ vs.length ∧ Inv (pcOf vs) vs.length i (1 + 4 * i) D ∧ (1 ≤ i → Full D) ∧ drun i (vs.drop i) D = drun 0 vs d0 ∧
      DW s₀ d m [] [] ads D.op D.pl s' ∧ ND d.C d.P Z0 x m ∧ x.cps.toList = D.tx ∧ ads.getLast? = some Z0 ∧ IsEnum s'.heap d.Z d.I (i : Int) old ∧ s'.heap.IsListIter d.I nl i) ?_ (vs.length + 1)
    ⟨0, d0, m, ⟨#[40]⟩, [Z0], .none, by omega, by omega, inv_d0 _ _, fun h => (by omega), rfl, σ, n, rfl, rfl, he, hit⟩
  clear σ n he hit
  rintro n' s' ⟨i, D, m, x, ads, old, hni, hil, I, F, hrun, σ, n, hx, hgl, he, hit⟩
  have hls := σ.base _ _ hnl
  by_cases hiv : i < vs.length
  · have hvi : vs[i]? = some vs[i] := List.getElem?_eq_getElem hiv
    generalize vs[i] = v at hvi
    obtain ⟨vv, hvv, tv, rfl⟩ := hv.at hvi
    have hdrop : vs.drop i = v :: vs.drop (i + 1) := by
      obtain ⟨hlt, e⟩ := List.getElem?_eq_some_iff.mp hvi
      rw [List.drop_eq_getElem_cons hlt, e]
    rw [hdrop] at hrun
    have hpk : pcOf vs i = piece v := by unfold pcOf; simp [List.getD, hvi]
    refine wpAny_pyNext_enum_item he hit ⟨_, hls, rfl, _, rfl⟩ (x := .int (v : Int) tv) (by simpa using hvv) (Ne.symm W.IZ) fun h₁ heo hit₁ hT hsz hk => ?_
    refine wpAny_letOwnedTupleGo_enum heo fun h₂ he₂ hs₂ => ?_
    replace hs₂ : Heap.SameBut d.Z h₁ h₂ := hs₂
    have hel := Heap.lt_size he
    have hTl : s'.heap.objs.size ≠ d.Z := Nat.ne_of_gt hel
    have ht₂ : h₂.IsTuple s'.heap.objs.size #[.int (i : Int) s'.toks, .int (v : Int) tv] := ⟨_, (hs₂.2 _ hTl).trans hT, rfl, _, rfl⟩
    refine wpAny_assign_Tuple hh ht₂ rfl rfl fun h₃ hx₃ => ?_
    replace hx₃ : Heap.ExtBut h₂.objs.size h₂ h₃ := hx₃
    have hz₂ : h₂.objs.size = s'.heap.objs.size + 1 := hs₂.1.trans hsz
    have old₃ : ∀ b o, b < s'.heap.objs.size → h₂.get? b = some o → h₃.get? b = some o := fun b o hb q => hx₃ b o (by rw [hz₂]; exact Nat.ne_of_lt (Nat.lt_succ_of_lt hb)) q
    have up₃ : ∀ b o, b ≠ d.L → b ≠ d.Z → b ≠ d.I → s'.heap.get? b = some o → h₃.get? b = some o := fun b o _ h1 h2 q => old₃ b o (Heap.lt_size q) ((hs₂.2 b h1).trans (hk b o h1 h2 q))
    have he₃ := old₃ _ _ hel he₂
    have hil' : d.I < s'.heap.objs.size := let ⟨_, q, _⟩ := hit; Heap.lt_size q
    have hit₃ : h₃.IsListIter d.I nl (i + 1) := let ⟨o, q, r⟩ := hit₁; ⟨o, old₃ _ _ hil' ((hs₂.2 _ W.IZ).trans q), r⟩
    have hn₃ : h₃.Ns d.L m := σ.ns.at' fun o q => old₃ _ o (Heap.lt_size q) ((hs₂.2 _ (Ne.symm W.ZL)).trans (hk _ o (Ne.symm W.ZL) (Ne.symm W.IL) q))
    have σ₃ : DW s₀ d m [] [] ads D.op D.pl { s' with heap := h₃, toks := s'.toks + 1 } := σ.keep W up₃ hn₃ rfl id
    clear hs₂ hx₃ up₃ old₃ hk hT ht₂ heo he₂ hn₃ hit₁
    show wpAny _ _ (do holding [_] (assign (.Name (Str.ofString "k") _) (eD d.L cd) (.int (i : Int) s'.toks)); do holding [] (assign (.Name (Str.ofString "v") _) (eD d.L cd) (.int (v : Int) tv)); pure ()) _ _ _
    refine wpAny_bind (wpAny_holding (wpAny_assign_Name (dw_st W σ₃ fun s₄ σ₄ k4 => ?_)))
    refine wpAny_bind (wpAny_holding (wpAny_assign_Name (dw_st W σ₄ fun s₅ σ₅ k5 => wpAny_pure ?_)))
    have he₅ := k5 _ _ W.ZL (k4 _ _ W.ZL he₃)
    have hit₅ : s₅.heap.IsListIter d.I nl (i + 1) := let ⟨o, q, r⟩ := hit₃; ⟨o, k5 _ _ W.IL (k4 _ _ W.IL q), r⟩
    have n₅ := (n.upd (y := Str.ofString "k") (v := .int (i : Int) s'.toks) (by decide) (by decide) (by decide) (by decide)).upd (y := Str.ofString "v") (v := .int (v : Int) tv) (by decide) (by decide) (by decide) (by decide)
    have hv₅ := upd_same (m := upd m (Str.ofString "k") (.int (i : Int) s'.toks)) (x := Str.ofString "v") (v := .int (v : Int) tv)
    have hk₅ := (upd_ne (m := upd m (Str.ofString "k") (.int (i : Int) s'.toks)) (x := Str.ofString "v") (y := Str.ofString "k") (v := .int (v : Int) tv) (by decide)).trans upd_same
    obtain ⟨oI, qI, _⟩ := id hit₅
    refine d_turn hs G W I hiv hpk (by omega) (by omega) σ₅ n₅ hx hgl (by rw [he₅]; simp) (by rw [qI]; simp) hv₅ hk₅ fun s₆ m₆ ads₆ x₆ σ₆ n₆ hx₆ hgl₆ it₆ => ?_
    obtain ⟨a1, a2⟩ := inv_leaf (v := v) (inv_open (v := v) I) hiv hpk
    obtain ⟨b1, b2⟩ := inv_close (v := v) hs a1 a2 (by omega)
    refine ⟨n' - 1, by omega, i + 1, dstep i v D, m₆, x₆, ads₆, .int (v : Int) tv, by omega, by omega, b1.up (by omega), fun _ => b2, hrun, σ₆, n₆, hx₆, hgl₆, ?_, let ⟨o, q, r⟩ := hit₅; ⟨o, it₆.i _ q, r⟩⟩
    have := it₆.z _ he₅
    push_cast
    exact this
  · have hnone : vals.toArray[i]? = none := by simp; omega
    refine wpAny_pyNext_enum_end hh he hit ⟨_, hls, rfl, _, rfl⟩ hnone fun h₁ hx₁ => ?_
    replace hx₁ : Heap.ExtBut d.I s'.heap h₁ := hx₁
    have σ₁ : DW s₀ d m [] [] ads D.op D.pl { s' with heap := h₁ } := σ.keep W (fun b o _ _ h2 q => hx₁ b o h2 q) (σ.ns.at' fun o q => hx₁ _ o (Ne.symm W.IL) q) rfl id
    refine wpAny_execs_nil ?_
    rw [List.drop_eq_nil_iff.mpr (by omega), drun] at hrun
    rw [hrun] at σ₁ hx
    exact hR _ _ _ _ σ₁ n hx hgl
end
end Mine

namespace Mine
/-- the open nodes, read as the tree that they will be -/
theorem open_tree {h : Heap} {ok : Addr → Prop} : ∀ (as : List Addr) (a : Addr) (tail : List Value) (tl : List Tr) (c : List Tr) (cs : List (List Tr)), OpenAt h ok tail (a :: as) (c :: cs) → TreesX h (fun _ => True) tail tl →
    ∀ Z0, (a :: as).getLast? = some Z0 → TreeAt h (.ref Z0) (closeT (c ++ tl) cs)
  | [], a, tail, tl, c, [], ⟨⟨vs, k, g, r⟩, _⟩, ht, Z0, hl => by
    have : a = Z0 := by simpa using hl
    subst this
    rw [closeT]
    refine ⟨a, vs ++ tail, k, rfl, g, ?_⟩
    have hh : ∀ (vs : List Value) (c : List Tr), TreesX h ok vs c → TreesAt h (vs ++ tail) (c ++ tl) := by
      intro vs
      induction vs with
      | nil => intro c x; cases c with
        | nil => exact TreesX.at tl tail ht
        | cons _ _ => exact x.elim
      | cons v vs ih => intro c x; cases c with
        | nil => exact x.elim
        | cons t c => exact ⟨TreeX.at t v x.1, ih c x.2⟩
    exact hh vs c r
  | [], a, tail, tl, c, _ :: _, ⟨_, x⟩, ht, Z0, hl => x.elim
  | a1 :: as, a, tail, tl, c, [], ⟨_, x⟩, ht, Z0, hl => x.elim
  | a1 :: as, a, tail, tl, c, p :: cs, ⟨⟨vs, k, g, r⟩, x⟩, ht, Z0, hl => by
    rw [closeT]
    have hh : ∀ (vs : List Value) (c : List Tr), TreesX h ok vs c → TreesX h (fun _ => True) (vs ++ tail) (c ++ tl) := by
      intro vs
      induction vs with
      | nil => intro c x; cases c with
        | nil => exact ht
        | cons _ _ => exact x.elim
      | cons v vs ih => intro c x; cases c with
        | nil => exact x.elim
        | cons t c => exact ⟨TreeX.move (fun _ _ _ e => ⟨trivial, e⟩) t v x.1, ih c x.2⟩
    refine open_tree as a1 [.ref a] [.node (c ++ tl)] p cs x ⟨⟨a, vs ++ tail, k, rfl, trivial, g, hh vs c r⟩, trivial⟩ Z0 ?_
    rw [List.getLast?_cons_cons] at hl
    exact hl

theorem ne_gt {a b : Nat} (h : b < a) : a ≠ b := Nat.ne_of_gt h
theorem apart_of {B : Heap} {c p i : Nat} (h1 : B.objs.size < c) (h2 : c < p) (h3 : p < i) : DB.Apart ⟨B.objs.size, c, p, i + 1, i⟩ B := by
  have hge : ∀ b : Nat, B.objs.size ≤ b → B.get? b = none := fun b hb => get_fresh hb
  have a1 : c ≠ B.objs.size := by omega
  have a2 : p ≠ B.objs.size := by omega
  have a3 : i + 1 ≠ B.objs.size := by omega
  have a4 : i ≠ B.objs.size := by omega
  have a5 : p ≠ c := by omega
  have a6 : i + 1 ≠ c := by omega
  have a7 : i ≠ c := by omega
  have a8 : i + 1 ≠ p := by omega
  have a9 : i ≠ p := by omega
  have a10 : i ≠ i + 1 := by omega
  exact ⟨a1, a2, a3, a4, a5, a6, a7, a8, a9, a10, hge _ (Nat.le_refl _), hge c (by omega), hge p (by omega), hge (i + 1) (by omega), hge i (by omega)⟩
theorem ne_lt {a b : Nat} (h : a < b) : a ≠ b := Nat.ne_of_lt h
section
variable {w : World} {A : Around} {mg mb : Str → Option Value} {E : Value → Shared → Prop} {s : Shared}
set_option maxHeartbeats 1000000 in
theorem drawn_ok {vs : List Nat} {nl : Addr} {vals : List Value} {c : Nat} {Q : Value → Shared → Prop} (G : GX w mg mb s.heap) (room : Room A 5) (hnl : s.heap.get? nl = some (lstObj vals.toArray c)) (hv : All2 NumN vals vs) (hne : vs ≠ []) (hl : vs.length ≤ 20)
    (h : ∀ s' r Z0 P x t vsP cP c0 rr, Now s s' → s'.heap.get? r = some { cls := .type "tuple", data := .seq #[.ref Z0, .str x t, .ref P] } → Plain vs (drun 0 vs d0) c0 rr → TreeAt s'.heap (.ref Z0) (closeT c0 rr) → x.cps.toList = ser (pcOf vs) (closeT c0 rr) →
      s'.heap.get? P = some (lstObj (List.toArray vsP) cP) → All2 NumN vsP (drun 0 vs d0).pl → Q (.ref r) s') :
    wpAny (model PR w) A (call (.ref 164) [.ref nl]) Q E s := by
  obtain ⟨c0, rr, PL⟩ := plain_ok vs hne hl
  refine enter (name := Str.ofString "_law_drawn") (i := 65) (binds := [(Str.ofString "numbers", .ref nl)]) G.gc f_drawn room.lt (fun _ _ => rfl) (locs rfl) fun h₁ cd F => ?_
  have room' := room.deeper (eD s.heap.objs.size cd)
  generalize A.deeper (envOf (Str.ofString "_law_drawn") (fnScope 65) s.heap.objs.size 164 cd) = A' at room' ⊢
  have L1 : s.heap.objs.size < h₁.objs.size := F.ns.lt
  -- tree = []
  refine wpAny_execs_cons (wpAny_Assign_Name (wpAny_List (spliced_none ⟨Nat.zero_le _, ?_⟩)))
  have F1 := F.push (lstObj #[] 0)
  have g1 : (h₁.push (lstObj #[] 0)).get? h₁.objs.size = some (lstObj #[] 0) := Heap.get?_push_size _ rfl
  have z1 : (h₁.push (lstObj #[] 0)).objs.size = h₁.objs.size + 1 := Heap.size_push ..
  refine wpAny_storeName_local rfl F1.ns (fun h₂ hn₂ hs₂ => ?_) rfl
  replace hs₂ : Heap.SameBut s.heap.objs.size (h₁.push (lstObj #[] 0)) h₂ := hs₂
  have F2 := F1.set hn₂ hs₂
  have g2 := (hs₂.2 h₁.objs.size (Nat.ne_of_gt L1)).trans g1
  have z2 : h₂.objs.size = h₁.objs.size + 1 := hs₂.1.trans z1
  clear hs₂ hn₂ g1 z1 F1
  -- chain = [tree]
  refine wpAny_execs_cons (wpAny_Assign_Name (wpAny_List (spliced_more (wpAny_Name (wpAny_loadName_local rfl rfl F2.ns (v := .ref h₁.objs.size) rfl (spliced_none ⟨Nat.le_of_ble_eq_true rfl, ?_⟩))))))
  have F3 := F2.push (lstObj #[.ref h₁.objs.size] 0)
  have g3 : (h₂.push (lstObj #[.ref h₁.objs.size] 0)).get? h₂.objs.size = some (lstObj #[.ref h₁.objs.size] 0) := Heap.get?_push_size _ rfl
  have k3 : (h₂.push (lstObj #[.ref h₁.objs.size] 0)).get? h₁.objs.size = some (lstObj #[] 0) := Heap.get?_push_of_some _ g2
  have z3 : (h₂.push (lstObj #[.ref h₁.objs.size] 0)).objs.size = h₂.objs.size + 1 := Heap.size_push ..
  refine wpAny_storeName_local rfl F3.ns (fun h₄ hn₄ hs₄ => ?_) rfl
  replace hs₄ : Heap.SameBut s.heap.objs.size (h₂.push (lstObj #[.ref h₁.objs.size] 0)) h₄ := hs₄
  have F4 := F3.set hn₄ hs₄
  have g4 := (hs₄.2 h₂.objs.size (ne_gt (by omega))).trans g3
  have k4 := (hs₄.2 h₁.objs.size (ne_gt (by omega))).trans k3
  have z4 : h₄.objs.size = h₂.objs.size + 1 := hs₄.1.trans z3
  clear hs₄ hn₄ g3 k3 z3 F3
  -- text = '('
  refine wpAny_execs_cons (wpAny_Assign_Name (wpAny_Constant_str (wpAny_storeName_local rfl F4.ns (fun h₅ hn₅ hs₅ => ?_) rfl)))
  replace hs₅ : Heap.SameBut s.heap.objs.size h₄ h₅ := hs₅
  have F5 := F4.set hn₅ hs₅
  have g5 := (hs₅.2 h₂.objs.size (ne_gt (by omega))).trans g4
  have k5 := (hs₅.2 h₁.objs.size (ne_gt (by omega))).trans k4
  have z5 : h₅.objs.size = h₂.objs.size + 1 := hs₅.1.trans z4
  clear hs₅ hn₅
  -- places = []
  refine wpAny_execs_cons (wpAny_Assign_Name (wpAny_List (spliced_none ⟨Nat.zero_le _, ?_⟩)))
  have F6 := F5.push (lstObj #[] 0)
  have g6 : (h₅.push (lstObj #[] 0)).get? h₂.objs.size = some (lstObj #[.ref h₁.objs.size] 0) := Heap.get?_push_of_some _ g5
  have k6 : (h₅.push (lstObj #[] 0)).get? h₁.objs.size = some (lstObj #[] 0) := Heap.get?_push_of_some _ k5
  have p6 : (h₅.push (lstObj #[] 0)).get? h₅.objs.size = some (lstObj #[] 0) := Heap.get?_push_size _ rfl
  have z6 : (h₅.push (lstObj #[] 0)).objs.size = h₅.objs.size + 1 := Heap.size_push ..
  refine wpAny_storeName_local rfl F6.ns (fun h₇ hn₇ hs₇ => ?_) rfl
  replace hs₇ : Heap.SameBut s.heap.objs.size (h₅.push (lstObj #[] 0)) h₇ := hs₇
  have F7 := F6.set hn₇ hs₇
  have g7 := (hs₇.2 h₂.objs.size (ne_gt (by omega))).trans g6
  have k7 := (hs₇.2 h₁.objs.size (ne_gt (by omega))).trans k6
  have p7 := (hs₇.2 h₅.objs.size (ne_gt (by omega))).trans p6
  have z7 : h₇.objs.size = h₅.objs.size + 1 := hs₇.1.trans z6
  clear hs₇ hn₇ g6 k6 p6 z6 F6 g5 k5 F5 g4 k4 F4 g2 F2
  -- for k, v in enumerate(numbers)
  refine wpAny_execs_cons (wpAny_For (wpAny_Call_NameR (ev_bname (G.gc.keeps F7.keep) b_enumerate (callWith_type1 (spliced_more (wpAny_Name (wpAny_loadName_local rfl rfl F7.ns (v := .ref nl) rfl (spliced_none (call_enumerate_list ⟨_, F7.keep _ _ hnl, rfl, _, rfl⟩ fun h₈ he hit hz hk => ?_)))))))))
  refine wpAny_pyIter_enum he ?_
  have W : DB.Apart ⟨s.heap.objs.size, h₂.objs.size, h₅.objs.size, h₇.objs.size + 1, h₇.objs.size⟩ s.heap := apart_of (by omega) (by omega) (by omega)
  show codeAny _ _ (.forLoop dTarget (.ref (h₇.objs.size + 1)) dBody [] (eD s.heap.objs.size cd)) _ _
  refine d_loop (d := ⟨s.heap.objs.size, h₂.objs.size, h₅.objs.size, h₇.objs.size + 1, h₇.objs.size⟩) (Z0 := h₁.objs.size) (s₀ := s) room'.hh G W hnl hv hl
    ⟨fun b o e => hk _ _ (F7.keep _ _ e), F7.ns.keeps hk, ⟨0, hk _ _ g7⟩, ⟨0, [], hk _ _ p7, trivial⟩, ⟨⟨[], 0, hk _ _ k7, trivial⟩, trivial⟩, by simp, fun b hb => ?_, rfl, id⟩
    ⟨rfl, rfl, rfl, ⟨_, rfl⟩⟩ he hit fun s₉ m₉ ads₉ x₉ σ₉ n₉ hx₉ hgl₉ => ?_
  · have hb' : b = h₁.objs.size := by simpa using hb
    subst hb'
    refine ⟨ne_gt L1, ne_lt ?_, ne_lt ?_, ne_lt ?_, ne_lt ?_, get_fresh (Nat.le_of_lt L1)⟩
    · show h₁.objs.size < h₂.objs.size; omega
    · show h₁.objs.size < h₅.objs.size; omega
    · show h₁.objs.size < h₇.objs.size + 1; omega
    · show h₁.objs.size < h₇.objs.size; omega
  · have hol := PL.ol
    have htl := PL.tl
    have hxl : x₉.cps.size = (drun 0 vs d0).tx.length := by rw [← hx₉, Array.length_toList]
    have hopl : (drun 0 vs d0).op.length = rr.length + 1 := by rw [PL.op]; rfl
    have q1 : (drun 0 vs d0).op.length ≤ 4 := by rw [hopl]; exact PL.ol
    have q2 : 1 ≤ (drun 0 vs d0).op.length := by rw [hopl]; exact Nat.le_add_left _ _
    have q3 : x₉.cps.size ≤ 500 := by rw [hxl]; exact Nat.le_trans PL.tl (by decide)
    show wpAny (model PR w) A' (execs ((fnBody 65).drop 5) (eD s.heap.objs.size cd)) _ _ s₉
    have DE := fun Q E => d_end (A := A') (E := E) (cd := cd) (Q := Q) G σ₉ n₉ q1 q2 q3
    refine DE _ _ fun h' tk r t kk hr => ?_
    refine h _ r h₁.objs.size h₅.objs.size _ t _ _ c0 rr ⟨fun b o e => kk _ _ (σ₉.base _ _ e), σ₉.os, σ₉.bare⟩ hr PL ?_ ?_ (kk _ _ σ₉.pl.choose_spec.choose_spec.1) σ₉.pl.choose_spec.choose_spec.2
    · have ho := σ₉.op
      rw [PL.op] at ho
      cases ads₉ with
      | nil => exact ho.elim
      | cons a as =>
        have := open_tree as a [] [] c0 rr ho trivial _ hgl₉
        rw [List.append_nil] at this
        exact TreeAt.keeps kk _ _ this
    · show (x₉.cps ++ (List.replicate (drun 0 vs d0).op.length 41).toArray).toList = _
      rw [Array.toList_append, hx₉, hopl, ← PL.tx]
end
end Mine

namespace Mine
def Sq (h h' : Heap) : Prop := ∀ b o vs n, o.data = .seq vs n → h.get? b = some o → h'.get? b = some o
theorem Sq.ext {h h' : Heap} (k : Ext h h') : Sq h h' := fun b o _ _ _ e => k b o e
theorem Sq.trans {a b c : Heap} (x : Sq a b) (y : Sq b c) : Sq a c := fun d o vs n hd e => y d o vs n hd (x d o vs n hd e)
theorem Sq.but {h h' : Heap} {c : Addr} {oc : Obj} (hc : h.get? c = some oc) (hd : ∀ vs n, oc.data ≠ .seq vs n) (k : ∀ b o, b ≠ c → h.get? b = some o → h'.get? b = some o) : Sq h h' := fun b o vs n hs e => by
  refine k b o (fun z => ?_) e
  rw [z, hc] at e
  cases e
  exact hd _ _ hs
mutual
theorem TreeAt.sq {h h' : Heap} (k : Sq h h') : ∀ (t : Tr) (v : Value), TreeAt h v t → TreeAt h' v t
  | .leaf _, _, x => x
  | .node cs, _, x => by
    obtain ⟨a, vs, c, e, g, r⟩ := x
    exact ⟨a, vs, c, e, k _ _ _ _ rfl g, TreesAt.sq k cs vs r⟩
theorem TreesAt.sq {h h' : Heap} (k : Sq h h') : ∀ (ts : List Tr) (vs : List Value), TreesAt h vs ts → TreesAt h' vs ts
  | [], [], _ => trivial
  | t :: ts, v :: vs, x => ⟨TreeAt.sq k t v x.1, TreesAt.sq k ts vs x.2⟩
  | [], _ :: _, x => x.elim
  | _ :: _, [], x => x.elim
end
theorem WorthsAt.sq {h h' : Heap} {a : Addr} {ws : List Nat} (x : WorthsAt h a ws) (k : Sq h h') : WorthsAt h' a ws := let ⟨vs, c, g, r⟩ := x; ⟨vs, c, k _ _ _ _ rfl g, r⟩

abbrev eL (L : Addr) (pm cd : Value) : Env := callEnvC (Calls.docDef (Str.ofString "law") (fnArgs 68) (fnBody 68) (fnScope 68) pm cd .none) L 181
structure LS (s₀ : Shared) (m : Str → Option Value) (pv lv : Option Value) (s : Shared) : Prop where
  base : Ext s₀.heap s.heap
  ns : s.heap.Ns s₀.heap.objs.size m
  cp : s.heap.IsCell (s₀.heap.objs.size + 1) pv
  cl : s.heap.IsCell (s₀.heap.objs.size + 1 + 1) lv
  os : s.os = s₀.os
  bare : AllBare s₀.gens → AllBare s.gens
section
variable {w : World} {A : Around} {mg mb : Str → Option Value} {E : Value → Shared → Prop} {s₀ s : Shared} {m : Str → Option Value} {pv lv : Option Value} {pm cd : Value}
theorem LS.now {s' : Shared} (σ : LS s₀ m pv lv s) (n : Now s s') : LS s₀ m pv lv s' := ⟨fun b o e => n.ext _ _ (σ.base b o e), σ.ns.keeps n.ext, σ.cp.keeps n.ext, σ.cl.keeps n.ext, n.os.trans σ.os, fun z => n.bare (σ.bare z)⟩
theorem LS.tk {tk : Nat} (σ : LS s₀ m pv lv s) : LS s₀ m pv lv { s with toks := tk } := ⟨σ.base, σ.ns, σ.cp, σ.cl, σ.os, σ.bare⟩
theorem LS.old (_σ : LS s₀ m pv lv s) {b : Addr} {o : Obj} (e : s₀.heap.get? b = some o) : b ≠ s₀.heap.objs.size ∧ b ≠ s₀.heap.objs.size + 1 ∧ b ≠ s₀.heap.objs.size + 1 + 1 := by
  have h := Heap.lt_size e
  exact ⟨Nat.ne_of_lt h, Nat.ne_of_lt (Nat.lt_succ_of_lt h), Nat.ne_of_lt (Nat.lt_succ_of_lt (Nat.lt_succ_of_lt h))⟩
theorem ls_name {Q : Value → Shared → Prop} {x : Str} {pos : Pos} {v : Value} (σ : LS s₀ m pv lv s) (hv : m x = some v) (h : Q v s)
    (hl : (eL s₀.heap.objs.size pm cd).kindOf x = some .local := by rfl) (hd : (x == ("__debug__" : Str)) = false := by decide) : wpAny (model PR w) A (eval (.Name x pos) (eL s₀.heap.objs.size pm cd)) Q E s :=
  wpAny_Name (wpAny_loadName_local rfl hl σ.ns hv h) hd
theorem ls_st {Q : Unit → Shared → Prop} {x : Str} {v : Value} (σ : LS s₀ m pv lv s) (h : ∀ s', LS s₀ (upd m x v) pv lv s' → Sq s.heap s'.heap → Q () s')
    (hl : (eL s₀.heap.objs.size pm cd).kindOf x = some .local := by rfl) : wpAny (model PR w) A (storeName (eL s₀.heap.objs.size pm cd) x v) Q E s := by
  refine wpAny_storeName_local hl σ.ns (fun h' hn' hs' => ?_) rfl
  have k : ∀ b o, b ≠ s₀.heap.objs.size → s.heap.get? b = some o → h'.get? b = some o := fun b o hb e => (hs'.2 b hb).trans e
  obtain ⟨oL, es, ep, hL, hdL, _⟩ := σ.ns
  refine h _ ⟨fun b o e => k b o (σ.old e).1 (σ.base b o e), hn', ?_, ?_, σ.os, σ.bare⟩ (Sq.but hL (fun vs n z => by rw [hdL] at z; cases z) k)
  · exact let ⟨oc, g, r⟩ := σ.cp; ⟨oc, k _ _ (Nat.succ_ne_self _) g, r⟩
  · exact let ⟨oc, g, r⟩ := σ.cl; ⟨oc, k _ _ (Nat.ne_of_gt (Nat.lt_succ_of_lt (Nat.lt_succ_self _))) g, r⟩
theorem ls_stP {Q : Unit → Shared → Prop} {v : Value} (σ : LS s₀ m pv lv s) (h : ∀ s', LS s₀ m (some v) lv s' → Sq s.heap s'.heap → Q () s') : wpAny (model PR w) A (storeName (eL s₀.heap.objs.size pm cd) (Str.ofString "places") v) Q E s := by
  refine wpAny_storeName_cell rfl rfl rfl σ.cp (fun h' hc' hs' => ?_)
  have k : ∀ b o, b ≠ s₀.heap.objs.size + 1 → s.heap.get? b = some o → h'.get? b = some o := fun b o hb e => (hs'.2 b hb).trans e
  obtain ⟨oc, hg, hd⟩ := σ.cp
  refine h _ ⟨fun b o e => k b o (σ.old e).2.1 (σ.base b o e), σ.ns.at' fun o e => k _ _ (Ne.symm (Nat.succ_ne_self _)) e, hc', ?_, σ.os, σ.bare⟩ (Sq.but hg (fun vs n z => by rw [hd] at z; cases z) k)
  exact let ⟨oc, g, r⟩ := σ.cl; ⟨oc, k _ _ (Nat.succ_ne_self _) g, r⟩
theorem ls_stL {Q : Unit → Shared → Prop} {v : Value} (σ : LS s₀ m pv lv s) (h : ∀ s', LS s₀ m pv (some v) s' → Sq s.heap s'.heap → Q () s') : wpAny (model PR w) A (storeName (eL s₀.heap.objs.size pm cd) (Str.ofString "ladder") v) Q E s := by
  refine wpAny_storeName_cell rfl rfl rfl σ.cl (fun h' hc' hs' => ?_)
  have k : ∀ b o, b ≠ s₀.heap.objs.size + 1 + 1 → s.heap.get? b = some o → h'.get? b = some o := fun b o hb e => (hs'.2 b hb).trans e
  obtain ⟨oc, hg, hd⟩ := σ.cl
  refine h _ ⟨fun b o e => k b o (σ.old e).2.2 (σ.base b o e), σ.ns.at' fun o e => k _ _ (Nat.ne_of_lt (Nat.lt_succ_of_lt (Nat.lt_succ_self _))) e, ?_, hc', σ.os, σ.bare⟩ (Sq.but hg (fun vs n z => by rw [hd] at z; cases z) k)
  exact let ⟨oc, g, r⟩ := σ.cp; ⟨oc, k _ _ (Nat.ne_of_lt (Nat.lt_succ_self _)) g, r⟩

theorem enter_law {Q : Value → Shared → Prop} {v : Value} (G : GC mg mb s.heap) (room : A.depth < recursionLimit)
    (h : ∀ (s₁ : Shared) (m : Str → Option Value) (pm cd : Value), Kp s s₁ → LS s m none none s₁ → m (Str.ofString "script") = some v →
      wpAny (model PR w) (A.deeper (eL s.heap.objs.size pm cd)) (execs (fnBody 68) (eL s.heap.objs.size pm cd)) (fun f s' => Q (match f with | .ret v => v | _ => .none) s') (fun _ _ => False) s₁) :
    wpAny (model PR w) A (call (.ref 181) [v]) Q E s := by
  obtain ⟨o, pm, cd, ho, hd, hcd⟩ := G.fn ((181 : Addr), Str.ofString "law", 68) (by simp [fns])
  refine wpAny_call (codeAny_call_cells (fd := Calls.docDef (Str.ofString "law") (fnArgs 68) (fnBody 68) (fnScope 68) pm cd .none) (body := fnBody 68) (vals := [v]) (binds := [(Str.ofString "script", v)]) room ho hd G.lim hcd rfl rfl rfl ?_ fun s₁ x => ?_)
  · intro y hy
    simp only [List.mem_cons, List.not_mem_nil, or_false] at hy
    subst hy
    exact .inl rfl
  · obtain ⟨h₁, tk, rfl, k⟩ := x.done
    exact wpAny_mono (h _ _ pm cd ⟨h₁, tk, rfl, k⟩ ⟨k, x.toInCall.ns, x.cell (Str.ofString "places") _ rfl, x.cell (Str.ofString "ladder") _ rfl, rfl, id⟩ rfl) (fun f s' z => z) fun _ _ z => z.elim

/-- a subscript by a slice, whatever stands before the bracket -/
theorem sub_slice {env : Env} {value : Expr} {lower upper : Option Expr} {p pos : Pos} {Q : Value → Shared → Prop}
    (h : wpAny (model PR w) A (eval value env) (fun o s₁ => wpAny (model PR w) A (evalPart lower env) (fun vl s₂ => wpAny (model PR w) A (evalPart upper env) (fun vu s₃ =>
      ∃ l vs lo hi, o = .ref l ∧ s₃.heap.IsList l (List.toArray vs) ∧ vs.length ≤ 1000 ∧ IsPart vl lo ∧ IsPart vu hi ∧
        ∀ h' r, Ext s₃.heap h' → h'.get? r = some (lstObj (slicePick vs.toArray lo hi none) 0) → Q (.ref r) { s₃ with heap := h' }) E s₂) E s₁) E s) :
    wpAny (model PR w) A (eval (.Subscript value (.Slice lower upper none p) pos) env) Q E s := by
  rw [eval_Subscript]
  refine wpAny_bind (wpAny_mono h (fun o s₁ h₁ => wpAny_bind (wpAny_holding (wpAny_Slice (wpAny_mono h₁ (fun vl s₂ h₂ => wpAny_mono h₂ (fun vu s₃ h₃ => ?_) fun _ _ x => x) fun _ _ x => x)))) fun _ _ x => x)
  obtain ⟨l, vs, lo, hi, rfl, hl, hz, pl, pu, hQ⟩ := h₃
  rw [evalPart_none]
  refine wpAny_pure (wpAny_bind (wpAny_standAt ?_))
  have hl' : (s₃.heap.push { cls := .type "slice", data := .fields #[vl, vu, .none] }).IsList l vs.toArray := hl.push _
  have hT : (({ s₃ with heap := s₃.heap.push { cls := .type "slice", data := .fields #[vl, vu, .none] } } : Shared)).TypeIs (.ref l) "list" := hl'.typeIs
  refine wpAny_bind ?_
  rw [getitemInPython_of_ne (by intro e; cases e)]
  refine wpAny_bind (wpAny_specialOf hT list_getitem_lookup ?_)
  have hzz : (1000 : Nat) ≤ sizeLine := Nat.le_of_ble_eq_true rfl
  have fin : wpAny (model PR w) A (operate [.ref s₃.heap.objs.size, .ref l] (getItem (.ref l) (.ref s₃.heap.objs.size))) (fun r s₄ => wpAny (model PR w) A (letTemporaryGo value (.ref l) r >>= fun _ => pure r) Q E s₄) E { s₃ with heap := s₃.heap.push { cls := .type "slice", data := .fields #[vl, vu, .none] } } := by
    refine wpAny_operating ?_
    refine wpAny_getItem_list_slice hl' (Heap.IsSliceOf.new ..) pl pu .none (by simp) (wpAny_bind (wpAny_letTemporaryGo (wpAny_pure ?_))) (by simp; omega)
    exact hQ _ _ (fun b o e => Heap.get?_push_of_some _ (Heap.get?_push_of_some _ e)) (Heap.get?_push_size _ rfl)
  exact wpAny_pure (wpAny_bind fin)

theorem paired_all {F : Value → Value → Prop} : ∀ {a b : List Value}, Paired F a b → All2 F a b
  | _, _, .nil => trivial
  | _, _, .cons x y => ⟨x, paired_all y⟩

/-- the walk of a comprehension over a list -/
theorem lc_at {env : Env} {scope : Scope} {cl : List (Str × Addr)} {x : Str} {elt : Expr} {l : Addr} {vs : List Value} {c : Nat} (F : Value → Value → Prop) {Q : Value → Shared → Prop} (hh : A.handled = none) (hl : s.heap.get? l = some (lstObj vs.toArray c)) (hz : vs.length ≤ 1000)
    (hel : ∀ (C : Addr) (i : Nat) (v : Value) (s₃ : Shared) (m₃ : Str → Option Value) (E' : Value → Shared → Prop), vs[i]? = some v → s₃.heap.Ns C m₃ → m₃ x = some v → Ext s.heap s₃.heap → wpAny (model PR w) A (eval elt (compEnvC scope cl C env)) (fun y s₄ => F v y ∧ Kp s₃ s₄) E' s₃)
    (hQ : ∀ D h' tk ys c', h'.get? D = some (lstObj (List.toArray ys) c') → s.heap.get? D = none → All2 F vs ys → Ext s.heap h' → Q (.ref D) { s with heap := h', toks := tk }) :
    wpAny (model PR w) A (pyIter (.ref l)) (fun it s₂ => ∃ I fp wr n P St, it = .ref I ∧ Walks PR w A I fp wr n P St ∧ n ≤ sizeLine ∧ St 0 s₂.heap ∧ (∀ b ∈ fp, b < s₂.heap.objs.size) ∧
      QuietOnC PR w A env scope cl x [] elt wr P (fun _ => true) F s₂ ∧
      (∀ D h' tk ys (vs : List Value), s₂.heap.get? D = none → h'.IsList D ys → h'.PlainList D ys → vs.length = n → (∀ j v, vs[j]? = some v → P j v) → Paired F (vs.filter (fun _ => true)) ys.toList →
        (∀ b o, b ∉ wr → s₂.heap.get? b = some o → h'.get? b = some o) → Q (.ref D) { s₂ with heap := h', toks := tk })) E s := by
  refine wpAny_pyIter_list (items := vs.toArray) ⟨_, hl, rfl, _, rfl⟩ ?_
  have haI : l ≠ s.heap.objs.size := Nat.ne_of_lt (Heap.lt_size hl)
  have e2 : Ext s.heap (s.heap.push { cls := .type "list_iterator", data := .fields #[.ref l, .int 0 0] }) := fun b o e => Heap.get?_push_of_some _ e
  have nI : ∀ {b o}, s.heap.get? b = some o → b ∉ [s.heap.objs.size] := fun {b o} e z => by
    rw [List.mem_singleton] at z; rw [z] at e; exact absurd (Heap.lt_size e) (Nat.lt_irrefl _)
  refine ⟨_, _, _, _, _, _, rfl, Walks.list hh _ l haI vs.toArray, ?_, ⟨⟨_, Heap.get?_push_size _ rfl, rfl, rfl⟩, ⟨_, e2 _ _ hl, rfl, _, rfl⟩⟩, ?_, ⟨?_, ?_⟩, ?_⟩
  · have : (1000 : Nat) ≤ sizeLine := Nat.le_of_ble_eq_true rfl
    simp; omega
  · intro b hb
    show b < (s.heap.push _).objs.size
    rw [Heap.size_push]
    simp only [List.mem_cons, List.not_mem_nil, or_false] at hb
    rcases hb with rfl | rfl
    · exact Nat.lt_succ_self _
    · exact Nat.lt_succ_of_lt (Heap.lt_size hl)
  · intro C i v s₃ m₃ E' _ _ _ _ _ _
    rw [List.forIn_nil]
    exact wpAny_pure ⟨rfl, Kp.refl _⟩
  · intro C i v s₃ m₃ E' hC hP _ hn₃ hm₃ hk₃ _
    exact hel C i v s₃ m₃ E' (by simpa using hP) hn₃ hm₃ fun b o e => hk₃ b o (nI e) (e2 _ _ e)
  · intro D h' tk ys vs' hD hlD hplD hlen hP hF hk'
    have hvs' : vs' = vs := by
      refine List.ext_getElem? fun j => ?_
      cases hj : vs'[j]? with
      | some v => have := hP j v hj; simpa using this.symm
      | none =>
        have h1 : vs'.length ≤ j := List.getElem?_eq_none_iff.mp hj
        have h2 : vs.length ≤ j := by simp at hlen; omega
        rw [List.getElem?_eq_none h2]
    subst hvs'
    rw [List.filter_eq_self.mpr (fun _ _ => rfl)] at hF
    obtain ⟨nD, hgD⟩ := hplD
    exact hQ D h' tk ys.toList nD (by simpa using hgD) (fresh_of_ext e2 hD) (paired_all hF) fun b o e => hk' b o (nI e) (e2 _ _ e)
theorem ev_lc {env : Env} {elt iter : Expr} {x : Str} {px : Pos} {scope : Scope} {cl : List (Str × Addr)} {pos : Pos} {Q : Value → Shared → Prop} (F : Value → Value → Prop)
    (hclos : closureFor scope env = pure cl) (hcell : ∀ y ∈ scope.names, y.2 ≠ .cell) (hkind : scope.kind = .function)
    (hnames : ∀ y ∈ scope.names, y.2 = .local → scope.names.lookup y.1 = some .local) (hx : scope.names.lookup x = some .local) (hh : A.handled = none)
    (h : wpAny (model PR w) A (eval iter env) (fun xv s₁ => ∃ l vs c, xv = .ref l ∧ s₁.heap.get? l = some (lstObj (List.toArray vs) c) ∧ vs.length ≤ 1000 ∧
      (∀ (C : Addr) (i : Nat) (v : Value) (s₃ : Shared) (m₃ : Str → Option Value) (E' : Value → Shared → Prop), vs[i]? = some v → s₃.heap.Ns C m₃ → m₃ x = some v → Ext s₁.heap s₃.heap → wpAny (model PR w) A (eval elt (compEnvC scope cl C env)) (fun y s₄ => F v y ∧ Kp s₃ s₄) E' s₃) ∧
      (∀ D h' tk ys c', h'.get? D = some (lstObj (List.toArray ys) c') → s₁.heap.get? D = none → All2 F vs ys → Ext s₁.heap h' → Q (.ref D) { s₁ with heap := h', toks := tk })) E s)
    (hs : ∀ x, foldedSetIterable iter env x = pure x := by intro _; rfl) :
    wpAny (model PR w) A (eval (.ListComp elt [⟨.Name x px, iter, [], 0⟩] scope pos) env) Q E s := by
  refine wpAny_ListComp_free (cl := cl) (fun _ => true) F hclos hcell hkind hnames hx (wpAny_mono h (fun xv s₁ h₁ => ?_) fun _ _ e => e) hs
  obtain ⟨l, vs, c, rfl, hl, hz, hel, hQ⟩ := h₁
  exact lc_at (Q := Q) F hh hl hz hel hQ
end
end Mine

namespace Mine
/-- the nine numbers -/
def rest9 : List Nat := [36, 55, 28, 95, 156, 32, 69, 7, 45]
def numsOf (ns : List Int) : List Nat := (ns.take 9).map (fun n => (n.fmod 192).toNat) ++ rest9.drop ns.length
theorem nums_len (ns : List Int) : (numsOf ns).length = 9 := by
  unfold numsOf rest9
  simp
  omega
def numsExpr : Expr := match (fnBody 68)[0]? with | some (Stmt.Assign (value := v) ..) => v | _ => default
section
variable {w : World} {A : Around} {mg mb : Str → Option Value} {E : Value → Shared → Prop} {s₀ s : Shared} {m : Str → Option Value} {pv lv : Option Value} {pm cd : Value}
theorem ev_callE {env : Env} {x : Str} {np pos : Pos} {f : Addr} {name : Str} {i : Nat} {e : Expr} {rest : List Expr} {Q : Value → Shared → Prop} (G : GC mg mb s.heap) (hp : (x, .ref f) ∈ gtab) (hf : (f, name, i) ∈ fns) (hg : env.globals = mainGlobals)
    (h : wpAny (model PR w) A (spliced (backTo pos (starEach (e :: rest) env))) (fun vs s₁ => Ext s.heap s₁.heap ∧ wpAny (model PR w) A (call (.ref f) vs) Q E s₁) E s)
    (he : starEach (e :: rest) env = (false, eval e env) :: starEach rest env := by rfl)
    (hk : env.scope.kind = .function := by rfl) (hx : env.kindOf x = some .globalImplicit := by rfl) (hd : (x == ("__debug__" : Str)) = false := by decide) :
    wpAny (model PR w) A (eval (.Call (.Name x np) (e :: rest) [] pos) env) Q E s := by
  obtain ⟨o, pm, cd', ho, hdat, hcd⟩ := G.fn _ hf
  exact wpAny_Call_NameR (ev_gnameE G hp hg (callWith_def_at ho hdat (wpAny_mono h (fun vs s₁ h₁ => ⟨h₁.1 _ _ ho, h₁.2⟩) fun _ _ e => e) he) hk hx hd)

theorem ints_at : ∀ {vs : List Value} {ns : List Int} {i : Nat} {v : Value}, IntsAre vs ns → vs[i]? = some v → ∃ n t, v = .int n t
  | _, _, _, _, .nil, e => by simp at e
  | _, _, 0, _, .cons n t _, e => by simp at e; exact ⟨n, t, e.symm⟩
  | _, _, i + 1, _, .cons n t r, e => by simp at e; exact ints_at r e
def F1 (x y : Value) : Prop := ∀ n t, x = .int n t → ∃ t', y = .int (n.fmod 192) t'
theorem nums_take : ∀ {vs ys : List Value} {ns : List Int}, IntsAre vs ns → All2 F1 vs ys → All2 NumN ys (ns.map fun n => (n.fmod 192).toNat)
  | _, [], _, .nil, _ => trivial
  | _, _ :: _, _, .nil, x => x.elim
  | _, [], _, .cons _ _ _, x => x.elim
  | _, y :: ys, _, .cons n t r, x => by
    refine ⟨?_, nums_take r x.2⟩
    obtain ⟨t', e⟩ := x.1 n t rfl
    have h0 : 0 ≤ n.fmod 192 := Int.fmod_nonneg_of_pos n (by decide)
    exact ⟨t', by rw [e, Int.toNat_of_nonneg h0]⟩
theorem all2_drop {α β : Type} {R : α → β → Prop} : ∀ {as : List α} {bs : List β} (k : Nat), All2 R as bs → All2 R (as.drop k) (bs.drop k)
  | _, _, 0, h => h
  | [], [], _ + 1, _ => trivial
  | _ :: _, _ :: _, k + 1, h => all2_drop k h.2
  | [], _ :: _, _ + 1, h => h.elim
  | _ :: _, [], _ + 1, h => h.elim

theorem ev_list9 {env : Env} {q0 q1 q2 q3 q4 q5 q6 q7 q8 : Nat} {p0 p1 p2 p3 p4 p5 p6 p7 p8 p9 : Pos} {Q : Value → Shared → Prop} (h : ∀ tk V9, All2 NumN V9 rest9 → Q (.ref s.heap.objs.size) { s with heap := s.heap.push (lstObj (List.toArray V9) 0), toks := tk }) :
    wpAny (model PR w) A (eval (.List [.Constant (.int 36) q0 p0, .Constant (.int 55) q1 p1, .Constant (.int 28) q2 p2, .Constant (.int 95) q3 p3, .Constant (.int 156) q4 p4, .Constant (.int 32) q5 p5, .Constant (.int 69) q6 p6, .Constant (.int 7) q7 p7, .Constant (.int 45) q8 p8] p9) env) Q E s :=
  wpAny_List (spliced_more (wpAny_Constant_int (spliced_more (wpAny_Constant_int (spliced_more (wpAny_Constant_int (spliced_more (wpAny_Constant_int (spliced_more (wpAny_Constant_int (spliced_more (wpAny_Constant_int (spliced_more (wpAny_Constant_int (spliced_more (wpAny_Constant_int (spliced_more (wpAny_Constant_int (spliced_none ⟨Nat.le_of_ble_eq_true rfl, h _ [_, _, _, _, _, _, _, _, _] ⟨⟨_, rfl⟩, ⟨_, rfl⟩, ⟨_, rfl⟩, ⟨_, rfl⟩, ⟨_, rfl⟩, ⟨_, rfl⟩, ⟨_, rfl⟩, ⟨_, rfl⟩, ⟨_, rfl⟩, trivial⟩⟩)))))))))))))))))))
theorem ev_right {q0 q1 q2 q3 q4 q5 q6 q7 q8 : Nat} {p0 p1 p2 p3 p4 p5 p6 p7 p8 p9 : Pos} {b1 b2 b3 b4 b5 : Pos} {ex : Expr} {ns : List Int} {nl : Addr} {vals : List Value} {Q : Value → Shared → Prop} (G : GC mg mb s₀.heap) (σ : LS s₀ m pv lv s) (hsc : s₀.heap.IsList nl vals.toArray) (hvl : vals.length = ns.length) (hz : ns.length ≤ 63) (hm : m (Str.ofString "script") = some (.ref nl))
    (h : ∀ s' D vs', Kp s s' → s'.heap.get? D = some (lstObj (List.toArray vs') 0) → All2 NumN vs' (rest9.drop ns.length) → Q (.ref D) s') (hex : ex = (.Subscript (.List [.Constant (.int 36) q0 p0, .Constant (.int 55) q1 p1, .Constant (.int 28) q2 p2, .Constant (.int 95) q3 p3, .Constant (.int 156) q4 p4, .Constant (.int 32) q5 p5, .Constant (.int 69) q6 p6, .Constant (.int 7) q7 p7, .Constant (.int 45) q8 p8] p9) (.Slice (some (.Call (.Name (Str.ofString "len") b1) [.Name (Str.ofString "script") b2] [] b3)) none none b4) b5)) :
    wpAny (model PR w) A (eval ex (eL s₀.heap.objs.size pm cd)) Q E s := by
  subst hex
  have hsc' : ∀ {s'}, LS s₀ m pv lv s' → s'.heap.IsList nl vals.toArray := fun {s'} σ' => let ⟨o, ho, r⟩ := hsc; ⟨o, σ'.base _ _ ho, r⟩
  refine sub_slice ?_
  refine ev_list9 ?_
  intro tk9 V9 hV9
  have hl9 := hV9.len
  have e3 : Ext s.heap (s.heap.push (lstObj V9.toArray 0)) := fun b o e => Heap.get?_push_of_some _ e
  have g3 : (s.heap.push (lstObj V9.toArray 0)).get? s.heap.objs.size = some (lstObj V9.toArray 0) := Heap.get?_push_size _ rfl
  have σ₃ : ∀ tk, LS s₀ m pv lv { s with heap := s.heap.push (lstObj V9.toArray 0), toks := tk } := fun tk => σ.now (s' := { s with heap := s.heap.push (lstObj V9.toArray 0), toks := tk }) ⟨e3, rfl, id⟩
  refine wpAny_evalPart_some (wpAny_Call_NameR (ev_bnameE (G.keeps (σ₃ 0).base) b_len rfl rfl (PyProof.Rows.callWith_builtin1 (spliced_more (ls_name (σ₃ _) hm (spliced_none (Calls.call_len_list (hsc' (σ₃ _)) (by simp; omega) ?_)))))))
  refine wpAny_evalPart_none ⟨_, V9, some ((vals.toArray.size : Nat) : Int), none, rfl, ⟨_, g3, rfl, _, rfl⟩, by rw [hl9]; decide, .int _ _, .none, fun h₄ r4 k4 hr4 => ?_⟩
  rw [slicePick_from'] at hr4
  refine h _ _ (V9.drop vals.toArray.size) ⟨h₄, _, rfl, fun b o e => k4 _ _ (e3 _ _ e)⟩ hr4 ?_
  have := all2_drop vals.toArray.size hV9
  rw [List.size_toArray, hvl] at this ⊢
  exact this
theorem law_nums {ns : List Int} {nl : Addr} {vals : List Value} {Q : Value → Shared → Prop} (hh : A.handled = none) (G : GC mg mb s₀.heap) (σ : LS s₀ m pv lv s) (hsc : s₀.heap.IsList nl vals.toArray) (hi : IntsAre vals ns) (hz : ns.length ≤ 63) (hm : m (Str.ofString "script") = some (.ref nl))
    (h : ∀ s' D vs' c, Now s s' → s'.heap.get? D = some (lstObj (List.toArray vs') c) → All2 NumN vs' (numsOf ns) → Q (.ref D) s') :
    wpAny (model PR w) A (eval numsExpr (eL s₀.heap.objs.size pm cd)) Q E s := by
  have hvl : vals.length = ns.length := hi.length
  have hsc' : ∀ {s'}, LS s₀ m pv lv s' → s'.heap.IsList nl vals.toArray := fun {s'} σ' => let ⟨o, ho, r⟩ := hsc; ⟨o, σ'.base _ _ ho, r⟩
  refine wpAny_BinOp ?_
  refine ev_lc (cl := []) F1 (by rfl) (by decide) rfl (by decide) rfl hh (sub_slice (ls_name σ hm (wpAny_evalPart_none (wpAny_evalPart_some (wpAny_Constant_int ⟨nl, vals, none, some 9, rfl, hsc' σ.tk, by omega, .none, .int _ _, fun h₁ r k1 hr => ?_⟩)))))
  have hi9 := slice_ints_uptoW hi (y := 9) (by decide)
  have hr' : h₁.get? r = some (lstObj (slicePick vals.toArray none (some 9) none).toList.toArray 0) := by rw [Array.toArray_toList]; exact hr
  refine ⟨r, _, 0, rfl, hr', by have := hi9.length; simp at this ⊢; omega, ?_, ?_⟩
  · intro C i v s₃ m₃ E' hvi hn₃ hm₃ k3
    obtain ⟨n, t, rfl⟩ := ints_at hi9 hvi
    refine wpAny_BinOp (wpAny_Name (wpAny_loadName_local rfl rfl hn₃ hm₃ (wpAny_Constant_int (mod_int' (by decide) ⟨fun n' t' e => ?_, ?_⟩))))
    · cases e; exact ⟨_, rfl⟩
    · exact ⟨s₃.heap, _, rfl, fun _ _ e => e⟩
  · intro D h₂ tk₂ ys c₂ hD hf hF k2
    have hys := nums_take hi9 hF
    have σ₂ : LS s₀ m pv lv { s with heap := h₂, toks := tk₂ } := σ.now ⟨fun b o e => k2 _ _ (k1 _ _ e), rfl, id⟩
    refine ev_right (s := { s with heap := h₂, toks := tk₂ }) G σ₂ hsc hvl hz hm ?_ rfl
    intro s₄ r4 V4 k4 hr4 hV4
    refine P.add_list (k4.ext _ _ hD) hr4 ?_ ?_
    · refine h _ _ (ys ++ V4) 0 ⟨fun b o e => Heap.get?_push_of_some _ (k4.ext _ _ (k2 _ _ (k1 _ _ e))), k4.now.os, k4.now.bare⟩ ?_ (All2.app hys hV4)
      have := Heap.get?_push_size s₄.heap (o := lstObj (ys ++ V4).toArray 0) rfl
      have ea : ys.toArray ++ V4.toArray = (ys ++ V4).toArray := by simp
      rw [ea]
      exact this
    · have h1 := hys.len
      have h2 := hV4.len
      have h3 : rest9.length = 9 := rfl
      have : (2000 : Nat) ≤ sizeLine := Nat.le_of_ble_eq_true rfl
      simp at h1 h2 ⊢
      omega
end
end Mine

namespace Mine
def lawBody : List Stmt := fnBody 68
def ladExpr : Expr := match (fnBody 68)[2]? with | some (Stmt.Assign (value := v) ..) => v | _ => default
section
variable {w : World} {A : Around} {mg mb : Str → Option Value} {E : Value → Shared → Prop} {s₀ s : Shared} {m : Str → Option Value} {pv lv : Option Value} {pm cd : Value}
theorem ev_list4 {env : Env} {q0 q1 q2 q3 : Nat} {p0 p1 p2 p3 p4 : Pos} {Q : Value → Shared → Prop} (h : ∀ tk V, All2 NumN V [31, 32, 49, 54] → Q (.ref s.heap.objs.size) { s with heap := s.heap.push (lstObj (List.toArray V) 0), toks := tk }) :
    wpAny (model PR w) A (eval (.List [.Constant (.int 31) q0 p0, .Constant (.int 32) q1 p1, .Constant (.int 49) q2 p2, .Constant (.int 54) q3 p3] p4) env) Q E s :=
  wpAny_List (spliced_more (wpAny_Constant_int (spliced_more (wpAny_Constant_int (spliced_more (wpAny_Constant_int (spliced_more (wpAny_Constant_int (spliced_none ⟨Nat.le_of_ble_eq_true rfl, h _ [_, _, _, _] ⟨⟨_, rfl⟩, ⟨_, rfl⟩, ⟨_, rfl⟩, ⟨_, rfl⟩, trivial⟩⟩)))))))))
theorem items_all : ∀ (n : Nat) (vs : List Value) (a : Nat), vs.length = n → (∀ (j : Nat) (v : Value), vs[j]? = some v → ∃ t, v = Value.int (((a + j : Nat)) : Int) t) → All2 NumN vs ((List.range n).map (a + ·))
  | 0, [], _, _, _ => trivial
  | n + 1, v :: vs, a, hl, h => by
    rw [List.range_succ_eq_map, List.map_cons, List.map_map]
    refine ⟨by have := h 0 v rfl; simpa [NumN] using this, ?_⟩
    have := items_all n vs (a + 1) (by simpa using hl) fun j v hj => by
      obtain ⟨t, e⟩ := h (j + 1) v (by simpa using hj)
      exact ⟨t, by rw [e]; congr 1; omega⟩
    have e : ((fun x => a + x) ∘ Nat.succ) = (fun x => a + 1 + x) := by funext x; simp; omega
    rw [e]
    exact this
  | 0, _ :: _, _, hl, _ => by simp at hl
  | _ + 1, [], _, hl, _ => by simp at hl
theorem law_lad {Q : Value → Shared → Prop} (hh : A.handled = none) (G : GC mg mb s.heap) (h : ∀ s' D vs', Kp s s' → s'.heap.get? D = some (lstObj (List.toArray vs') 0) → All2 NumN vs' lad24 → Q (.ref D) s') :
    wpAny (model PR w) A (eval ladExpr (eL s₀.heap.objs.size pm cd)) Q E s := by
  refine wpAny_BinOp ?_
  refine wpAny_Call_NameR (ev_bnameE G b_list rfl rfl ?_)
  refine PyProof.Rows.callWith_type1 (spliced_more ?_)
  refine wpAny_Call_NameR (ev_bnameE G b_range rfl rfl ?_)
  refine PyProof.Rows.callWith_type1 (spliced_more (wpAny_Constant_int (spliced_more (wpAny_Constant_int (spliced_none ?_)))))
  refine call_range_2 (spliced_none ?_)
  refine call_list_range (a := 7) (b := 27) (c := 1) (n := 20) hh (IsRange.new ..) (by decide +kernel) (by decide +kernel) (by decide) fun h' tk acc c' k hg hi => ?_
  have hV := items_all 20 acc.toList 7 (by simpa using hi.1) fun j v hj => by
    obtain ⟨t, e⟩ := hi.2 j v (by simpa using hj)
    exact ⟨t, by rw [e]; congr 1; omega⟩
  refine ev_list4 ?_
  intro tk4 V4 hV4
  refine P.add_list (Heap.get?_push_of_some _ hg) (Heap.get?_push_size _ rfl) ?_ ?_
  · refine h _ _ (acc.toList ++ V4) ⟨_, _, rfl, fun b o e => Heap.get?_push_of_some _ (Heap.get?_push_of_some _ (k _ _ (Heap.get?_push_of_some _ e)))⟩ ?_ (hV.app hV4)
    have := Heap.get?_push_size (h'.push (lstObj V4.toArray 0)) (o := lstObj (acc.toList ++ V4).toArray 0) rfl
    have ea : acc ++ V4.toArray = (acc.toList ++ V4).toArray := by simp
    rw [ea]
    exact this
  · have h1 := hi.1
    have h2 := hV4.len
    have : (2000 : Nat) ≤ sizeLine := Nat.le_of_ble_eq_true rfl
    simp at h2 ⊢
    omega
end
end Mine

namespace Mine
section
variable {w : World} {A : Around} {mg mb : Str → Option Value} {E : Value → Shared → Prop} {s₀ s : Shared} {m : Str → Option Value} {pv lv : Option Value} {pm cd : Value}
def F4 (x y : Value) : Prop := ∀ (n : Nat) (t : Tok), x = .int (n : Int) t → NumN y (lad24.getD (n / 4 % 24) 0)
theorem worths_all : ∀ {vs ys : List Value} {ns : List Nat}, All2 NumN vs ns → All2 F4 vs ys → All2 NumN ys (wsOf ns)
  | [], [], [], _, _ => trivial
  | v :: vs, y :: ys, n :: ns, a, b => by
    obtain ⟨⟨t, e⟩, a2⟩ := a
    exact ⟨b.1 n t e, worths_all a2 b.2⟩
  | [], _ :: _, _, _, b => b.elim
  | _ :: _, [], _, _, b => b.elim
  | [], [], _ :: _, a, _ => a.elim
  | _ :: _, _ :: _, [], a, _ => a.elim

/-- worths = [ladder[v // 4 % 24] for v in numbers] -/
theorem law_worths {vs : List Nat} {nD lD : Addr} {vals lvs : List Value} {c c2 : Nat} {Q : Flow → Shared → Prop} (hh : A.handled = none) (σ : LS s₀ m pv (some (.ref lD)) s) (hD : s.heap.get? nD = some (lstObj vals.toArray c)) (hv : All2 NumN vals vs) (hz : vs.length ≤ 500) (hL : s.heap.get? lD = some (lstObj lvs.toArray c2)) (hlv : All2 NumN lvs lad24)
    (hm : m (Str.ofString "numbers") = some (.ref nD))
    (h : ∀ s' W, LS s₀ (upd m (Str.ofString "worths") (.ref W)) pv (some (.ref lD)) s' → Sq s.heap s'.heap → WorthsAt s'.heap W (wsOf vs) → wpAny (model PR w) A (execs (lawBody.drop 4) (eL s₀.heap.objs.size pm cd)) Q E s') :
    wpAny (model PR w) A (execs (lawBody.drop 3) (eL s₀.heap.objs.size pm cd)) Q E s := by
  have hvl := hv.len
  refine wpAny_execs_cons (wpAny_Assign_ListComp_free (cl := [(Str.ofString "ladder", s₀.heap.objs.size + 1 + 1)]) (fun _ => true) F4 (by rfl) (by rfl) (by decide) rfl (by decide) rfl rfl rfl ?_)
  refine wpAny_Name (wpAny_loadName_local rfl rfl σ.ns hm ?_)
  refine wpAny_pyIter_list (items := vals.toArray) ⟨_, hD, rfl, _, rfl⟩ ?_
  have hLI : s₀.heap.objs.size ≠ s.heap.objs.size := Nat.ne_of_lt σ.ns.lt
  have haI : nD ≠ s.heap.objs.size := Nat.ne_of_lt (Heap.lt_size hD)
  have e2 : Ext s.heap (s.heap.push { cls := .type "list_iterator", data := .fields #[.ref nD, .int 0 0] }) := fun b o e => Heap.get?_push_of_some _ e
  have nI : ∀ {b o}, s.heap.get? b = some o → b ∉ [s.heap.objs.size] := fun {b o} e z => by
    rw [List.mem_singleton] at z; rw [z] at e; exact absurd (Heap.lt_size e) (Nat.lt_irrefl _)
  refine ⟨_, _, _, _, _, _, m, rfl, Walks.list hh _ nD haI vals.toArray, ?_, ⟨⟨_, Heap.get?_push_size _ rfl, rfl, rfl⟩, ⟨_, e2 _ _ hD, rfl, _, rfl⟩⟩, ?_, ?_, σ.ns.keeps e2, ⟨?_, ?_⟩, ?_⟩
  · have : (1000 : Nat) ≤ sizeLine := Nat.le_of_ble_eq_true rfl
    simp; omega
  · intro b hb
    show b < (s.heap.push _).objs.size
    rw [Heap.size_push]
    simp only [List.mem_cons, List.not_mem_nil, or_false] at hb
    rcases hb with rfl | rfl
    · exact Nat.lt_succ_self _
    · exact Nat.lt_succ_of_lt (Heap.lt_size hD)
  · show s₀.heap.objs.size ∉ [s.heap.objs.size]
    simpa using hLI
  · intro C i v s₃ m₃ E' _ _ _ _ _ _
    rw [List.forIn_nil]
    exact wpAny_pure ⟨rfl, Kp.refl _⟩
  · intro C i v s₃ m₃ E' hC hP _ hn₃ hm₃ hk₃ _
    have e13 : Ext s.heap s₃.heap := fun b o e => hk₃ b o (nI e) (e2 _ _ e)
    have hP' : vals[i]? = some v := by simpa using hP
    have hvi : ∃ n t, v = .int ((n : Nat) : Int) t := by
      have hlt : i < vs.length := by rw [← hvl]; exact (List.getElem?_eq_some_iff.mp hP').1
      obtain ⟨a, ha, t, e⟩ := hv.at (List.getElem?_eq_getElem hlt)
      rw [hP'] at ha
      cases ha
      exact ⟨_, t, e⟩
    obtain ⟨n, t, rfl⟩ := hvi
    have f1 : (n : Int).fdiv 4 = ((n / 4 : Nat) : Int) := fdiv_n n 4
    have f2 : ((n / 4 : Nat) : Int).fmod 24 = ((n / 4 % 24 : Nat) : Int) := fmod_n (n / 4) 24 (by decide)
    have h24 : n / 4 % 24 < 24 := Nat.mod_lt _ (by decide)
    refine sub_any (wpAny_Name (wpAny_loadName_cell rfl rfl rfl (σ.cl.keeps e13) (wpAny_BinOp (wpAny_BinOp (wpAny_Name (wpAny_loadName_local rfl rfl hn₃ hm₃ (wpAny_Constant_int (floordiv_int (by decide) (wpAny_Constant_int (mod_int' (by decide) ⟨brk_list (e13 _ _ hL) rfl, ?_⟩))))))))))
    rw [f1, f2]
    obtain ⟨a, ha, t', ea⟩ := hlv.at (show lad24[n / 4 % 24]? = some (lad24.getD (n / 4 % 24) 0) by
      have : n / 4 % 24 < lad24.length := h24
      simp [List.getD, this])
    subst ea
    refine wpAny_getItem_list ⟨_, e13 _ _ hL, rfl, _, rfl⟩ (Int.natCast_nonneg _) (by omega) (by rw [Int.toNat_natCast, List.getElem?_toArray]; exact ha) ⟨fun n' t'' e => ?_, s₃.heap, _, rfl, fun _ _ e => e⟩
    have : n' = n := by simp only [Value.int.injEq] at e; omega
    subst this
    exact ⟨_, rfl⟩
  · intro D h' tk ys vs' hDn hlD hplD hlen hP hF hns' hk'
    have hvs' : vs' = vals := by
      refine List.ext_getElem? fun j => ?_
      cases hj : vs'[j]? with
      | some v => have := hP j v hj; simpa using this.symm
      | none =>
        have h1 : vs'.length ≤ j := List.getElem?_eq_none_iff.mp hj
        have h2 : vals.length ≤ j := by simp at hlen; omega
        rw [List.getElem?_eq_none h2]
    subst hvs'
    rw [List.filter_eq_self.mpr (fun _ _ => rfl)] at hF
    have e14 : ∀ b o, b ≠ s₀.heap.objs.size → s.heap.get? b = some o → h'.get? b = some o := fun b o hb e => hk' b o hb (nI e) (e2 _ _ e)
    obtain ⟨oL, es, ep, hgL, hdL, _⟩ := σ.ns
    obtain ⟨nD', hgD⟩ := hplD
    refine h _ D ⟨fun b o e => e14 b o (σ.old e).1 (σ.base b o e), hns', ?_, ?_, σ.os, σ.bare⟩ (Sq.but hgL (fun vs n z => by rw [hdL] at z; cases z) e14) ⟨ys.toList, nD', by simpa using hgD, worths_all hv (paired_all hF)⟩
    · exact let ⟨oc, g, r⟩ := σ.cp; ⟨oc, e14 _ _ (Nat.succ_ne_self _) g, r⟩
    · exact let ⟨oc, g, r⟩ := σ.cl; ⟨oc, e14 _ _ (Nat.ne_of_gt (Nat.lt_succ_of_lt (Nat.lt_succ_self _))) g, r⟩
end
end Mine

namespace Mine
section
variable {w : World} {A : Around} {mg mb : Str → Option Value} {E : Value → Shared → Prop} {s₀ s : Shared} {m : Str → Option Value} {pv lv : Option Value} {pm cd : Value}
def F7 (pl : List Nat) (x y : Value) : Prop := ∀ (n : Nat) (t : Tok), x = .int (n : Int) t → NumN y (pl.getD n 0)
theorem places_all {pl : List Nat} : ∀ {vs ys : List Value} {ns : List Nat}, All2 NumN vs ns → All2 (F7 pl) vs ys → IntsAre ys (ns.map fun k => ((pl.getD k 0 : Nat) : Int))
  | [], [], [], _, _ => .nil
  | v :: vs, y :: ys, n :: ns, a, b => by
    obtain ⟨⟨t, e⟩, a2⟩ := a
    obtain ⟨t', e'⟩ := b.1 n t e
    subst e'
    exact .cons _ _ (places_all a2 b.2)
  | [], _ :: _, _, _, b => b.elim
  | _ :: _, [], _, _, b => b.elim
  | [], [], _ :: _, a, _ => a.elim
  | _ :: _, _ :: _, [], a, _ => a.elim
theorem ints_num : ∀ {vs : List Value} {ns : List Int}, All2 NumAt vs ns → IntsAre vs ns
  | [], [], _ => .nil
  | _ :: _, _ :: _, ⟨⟨t, e⟩, x⟩ => by subst e; exact .cons _ _ (ints_num x)
  | [], _ :: _, x => x.elim
  | _ :: _, [], x => x.elim

theorem law_end {T : Tr} {ws pl du : List Nat} {v : Value} {wl l D Pl : Addr} {vl vd vp : List Value} {cl cD cp : Nat} {tt : Tok} {Q : Flow → Shared → Prop} (room : Room A 110) (hu : A.units + 64 < cLine) (G : GC mg mb s₀.heap) (σ : LS s₀ m (some (.ref Pl)) lv s)
    (hwz : ws.length ≤ 500) (hT : TreeAt s.heap v T) (hg : hgt T ≤ 100) (hok : okT ws.length T) (hW : WorthsAt s.heap wl ws) (hval : val ws true T ≤ 255)
    (hl : s.heap.get? l = some (lstObj vl.toArray cl)) (hvl : All2 NumAt vl (du.map fun k => ((pl.getD k 0 : Nat) : Int))) (hD : s.heap.get? D = some (lstObj vd.toArray cD)) (hvd : All2 NumN vd du) (hdz : du.length ≤ 1000) (hdu : ∀ k ∈ du, k < pl.length) (hplz : pl.length ≤ 1000)
    (hP : s.heap.get? Pl = some (lstObj vp.toArray cp)) (hvp : All2 NumN vp pl)
    (m1 : m (Str.ofString "told") = some (.str ⟨#[val ws true T]⟩ tt)) (m2 : m (Str.ofString "tree") = some v) (m3 : m (Str.ofString "worths") = some (.ref wl)) (m4 : m (Str.ofString "looked") = some (.ref l)) (m5 : m (Str.ofString "due") = some (.ref D))
    (h : ∀ s', Now s s' → Q (.ret (.bool true)) s') :
    wpAny (model PR w) A (execs [lawBody.getD 6 (.Pass default)] (eL s₀.heap.objs.size pm cd)) Q E s := by
  refine wpAny_execs_cons (wpAny_Return_some ?_)
  refine BoolOp_and ?_
  refine wpAny_Compare1 ?_
  refine ls_name σ m1 ?_
  refine wpAny_Call_NameR (ev_bnameE (G.keeps σ.base) b_chr rfl rfl ?_)
  refine PyProof.Rows.callWith_builtin1 (spliced_more ?_)
  refine ev_callE (G.keeps σ.base) t_worth f_worth rfl (spliced_more (ls_name σ m2 (spliced_more (ls_name σ m3 (spliced_more (wpAny_Constant_bool (spliced_none ⟨fun _ _ e => e, ?_⟩)))))))
  refine worth_ok hwz 100 T hg (G.keeps σ.base) (room.mono (by omega)) hT hok hW fun tk s₂ k2 => ?_
  refine spliced_none (P.chr_of_int (by simp; omega) ?_)
  refine eq_str (wpAny_truthy_bool ?_)
  rw [Int.toNat_natCast]
  rw [show ((⟨#[val ws true T]⟩ : Str) == ⟨#[val ws true T]⟩) = true by simp]
  simp only [if_true]
  refine BoolOp_one ?_
  have n3 : Now s { s₂ with toks := s₂.toks + 1 } := ⟨k2.ext, k2.now.os, k2.now.bare⟩
  have σ₃ := σ.now n3
  refine wpAny_Compare1 ?_
  refine ls_name σ₃ m4 ?_
  refine ev_lc (cl := [(Str.ofString "places", s₀.heap.objs.size + 1)]) (F7 pl) (by rfl) (by decide) rfl (by decide) rfl room.hh ?_
  have hdl := hvd.len
  refine ls_name σ₃ m5 ⟨D, vd, cD, rfl, n3.ext _ _ hD, by omega, ?_, ?_⟩
  · intro C i x s₄ m₄ E' hx hn₄ hm₄ k4
    have hlt : i < du.length := by rw [← hdl]; exact (List.getElem?_eq_some_iff.mp hx).1
    obtain ⟨a, ha, t, e⟩ := hvd.at (List.getElem?_eq_getElem hlt)
    rw [hx] at ha
    cases ha
    subst e
    have hk : du[i] < pl.length := hdu _ (List.getElem_mem hlt)
    generalize du[i] = k at hk hm₄
    have hPg := k4 _ _ (n3.ext _ _ hP)
    refine sub_any (wpAny_Name (wpAny_loadName_cell rfl rfl rfl (σ₃.cp.keeps k4) (wpAny_Name (wpAny_loadName_local rfl rfl hn₄ hm₄ ⟨brk_list hPg rfl, ?_⟩))))
    obtain ⟨a, ha, t', ea⟩ := hvp.at (show pl[k]? = some (pl.getD k 0) by simp [List.getD, hk])
    subst ea
    refine wpAny_getItem_list ⟨_, hPg, rfl, _, rfl⟩ (Int.natCast_nonneg _) (by omega) (by rw [Int.toNat_natCast, List.getElem?_toArray]; exact ha) ⟨fun n' t'' e => ?_, s₄.heap, _, rfl, fun _ _ e => e⟩
    have : n' = k := by simp only [Value.int.injEq] at e; omega
    subst this
    exact ⟨_, rfl⟩
  · intro D2 h₅ tk₅ ys c5 hD2 _ hF k5
    have hys := places_all hvd hF
    refine eq_intsK ⟨_, k5 _ _ (n3.ext _ _ hl), rfl, _, rfl⟩ (ints_num hvl) ⟨_, hD2, rfl, _, rfl⟩ hys hu ?_
    rw [decide_eq_true rfl]
    exact h _ ⟨fun b o e => k5 _ _ (n3.ext _ _ e), n3.os, n3.bare⟩
end
end Mine

namespace Mine
section
variable {w : World} {A : Around} {mg mb : Str → Option Value} {E : Value → Shared → Prop} {s₀ s : Shared} {m : Str → Option Value} {pv lv : Option Value} {pm cd : Value}

/-- told, looked, due and the return -/
theorem law_late {vs : List Nat} {d : Dr} {c0 : List Tr} {rr : List (List Tr)} {x : Str} {tx : Tok} {Z0 W Pl : Addr} {vp : List Value} {cp : Nat} {Q : Flow → Shared → Prop} (room : Room A 120) (hu : A.units + 64 < cLine) (G : GX w mg mb s₀.heap) (σ : LS s₀ m (some (.ref Pl)) lv s)
    (PL : Plain vs d c0 rr) (hvl : vs.length ≤ 100) (hx : x.cps.toList = ser (pcOf vs) (closeT c0 rr)) (hT : TreeAt s.heap (.ref Z0) (closeT c0 rr)) (hW : WorthsAt s.heap W (wsOf vs)) (hP : s.heap.get? Pl = some (lstObj vp.toArray cp)) (hvp : All2 NumN vp d.pl)
    (m0 : m (Str.ofString "text") = some (.str x tx)) (m2 : m (Str.ofString "tree") = some (.ref Z0)) (m3 : m (Str.ofString "worths") = some (.ref W))
    (h2 : ∀ s', (∀ b o, s₀.heap.get? b = some o → s'.heap.get? b = some o) → s'.os = s₀.os → (AllBare s₀.gens → AllBare s'.gens) → Q (.ret (.bool true)) s') :
    wpAny (model PR w) A (execs (lawBody.drop 4) (eL s₀.heap.objs.size pm cd)) Q E s := by
  have hwl : (wsOf vs).length = vs.length := by simp [wsOf]
  obtain ⟨N, hrun⟩ := PL.run
  rw [← hx] at hrun
  have hxz : x.cps.size ≤ 100 := by rw [← Array.length_toList, hx]; exact PL.sz
  have hx34 : 34 ∉ x.cps.toList := by rw [hx]; exact PL.q
  -- told, looked = _law_searched(text)
  refine wpAny_execs_cons ?_
  refine Assign_Tuple ?_
  refine ev_callE (G.gc.keeps σ.base) t_searched f_searched rfl (spliced_more (ls_name σ m0 (spliced_none ⟨fun _ _ e => e, ?_⟩)))
  refine searched_ok (G.keeps σ.base) (room.mono (by omega)) hx34 (by omega) hrun fun s₁ r l t c vl n₁ hr hl hvl' => ?_
  have σ₁ := σ.now n₁
  refine wpAny_assign_Tuple room.hh ⟨_, hr, rfl, _, rfl⟩ rfl rfl fun h₂ hx₂ => ?_
  have n₂ : Now s { s₁ with heap := h₂ } := ⟨fun b o e => hx₂ b o (Nat.ne_of_lt (Heap.lt_size (n₁.ext _ _ e))) (n₁.ext _ _ e), n₁.os, n₁.bare⟩
  have hl₂ := hx₂ _ _ (Nat.ne_of_lt (Heap.lt_size hl)) hl
  have σ₂ := σ.now n₂
  clear σ₁ hx₂ hr
  show wpAny _ _ (do holding [_] (assign (.Name (Str.ofString "told") _) _ (.str ⟨#[val (wsOf vs) true (closeT c0 rr)]⟩ t)); do holding [] (assign (.Name (Str.ofString "looked") _) _ (.ref l)); pure ()) _ _ _
  refine wpAny_bind (wpAny_holding (wpAny_assign_Name (ls_st σ₂ fun s₃ σ₃ q₃ => ?_)))
  refine wpAny_bind (wpAny_holding (wpAny_assign_Name (ls_st σ₃ fun s₄ σ₄ q₄ => wpAny_pure ?_)))
  have q24 := (Sq.ext n₂.ext).trans (q₃.trans q₄)
  have hl₄ := q₄ _ _ _ _ rfl (q₃ _ _ _ _ rfl hl₂)
  have hT₄ := TreeAt.sq q24 _ _ hT
  have hW₄ := hW.sq q24
  have hP₄ := q24 _ _ _ _ rfl hP
  have a1 : (upd (upd m (Str.ofString "told") (.str ⟨#[val (wsOf vs) true (closeT c0 rr)]⟩ t)) (Str.ofString "looked") (.ref l)) (Str.ofString "told") = some (.str ⟨#[val (wsOf vs) true (closeT c0 rr)]⟩ t) := (upd_ne (by decide)).trans upd_same
  have a2 : (upd (upd m (Str.ofString "told") (.str ⟨#[val (wsOf vs) true (closeT c0 rr)]⟩ t)) (Str.ofString "looked") (.ref l)) (Str.ofString "tree") = some (.ref Z0) := (upd_ne (by decide)).trans ((upd_ne (by decide)).trans m2)
  have a3 : (upd (upd m (Str.ofString "told") (.str ⟨#[val (wsOf vs) true (closeT c0 rr)]⟩ t)) (Str.ofString "looked") (.ref l)) (Str.ofString "worths") = some (.ref W) := (upd_ne (by decide)).trans ((upd_ne (by decide)).trans m3)
  have a4 : (upd (upd m (Str.ofString "told") (.str ⟨#[val (wsOf vs) true (closeT c0 rr)]⟩ t)) (Str.ofString "looked") (.ref l)) (Str.ofString "looked") = some (.ref l) := upd_same
  generalize upd (upd m (Str.ofString "told") (.str ⟨#[val (wsOf vs) true (closeT c0 rr)]⟩ t)) (Str.ofString "looked") (.ref l) = M at σ₄ a1 a2 a3 a4
  clear σ₃ σ₂ q₃ q₄ q24 hl₂
  -- due = _law_due(tree, worths, True, 0, 256)
  refine wpAny_execs_cons (wpAny_Assign_Name ?_)
  refine ev_callE (G.gc.keeps σ₄.base) t_due f_due rfl (spliced_more (ls_name σ₄ a2 (spliced_more (ls_name σ₄ a3 (spliced_more (wpAny_Constant_bool (spliced_more (wpAny_Constant_int (spliced_more (wpAny_Constant_int (spliced_none ⟨fun _ _ e => e, ?_⟩)))))))))))
  have σ₅ := σ₄.tk (tk := s₄.toks + 1 + 1)
  refine due_ok (ws := wsOf vs) (by omega) 101 (closeT c0 rr) (lo := 0) (hi := 256) (Nat.lt_succ_of_le PL.hg) (Nat.le_trans PL.lv (by decide)) (G.gc.keeps σ₅.base) (room.mono (by omega)) hT₄ (by rw [hwl]; exact PL.ok) hW₄ fun D s₆ cD vd n₆ _ hD hvd => ?_
  refine ls_st (σ₅.now n₆) fun s₇ σ₇ q₇ => ?_
  have q47 := (Sq.ext n₆.ext).trans q₇
  have hdl := due_len (ws := wsOf vs) (closeT c0 rr) true 0 256
  have hlv := PL.lv
  have hpl := PL.pl
  refine law_end (room.mono (by omega)) hu G.gc σ₇ (by omega) (TreeAt.sq q47 _ _ hT₄) PL.hg (by rw [hwl]; exact PL.ok) (hW₄.sq q47) PL.val.2 (q47 _ _ _ _ rfl hl₄) hvl' (q₇ _ _ _ _ rfl hD) hvd (by omega) (fun k hk => by rw [hpl]; exact PL.due k hk) (by omega) (q47 _ _ _ _ rfl hP₄) hvp
    ((upd_ne (by decide)).trans a1) ((upd_ne (by decide)).trans a2) ((upd_ne (by decide)).trans a3) ((upd_ne (by decide)).trans a4) upd_same fun s₈ n₈ => ?_
  have σ₈ := σ₇.now n₈
  exact h2 _ σ₈.base σ₈.os σ₈.bare
end
end Mine

namespace Mine
section
variable {w : World} {A : Around} {mg mb : Str → Option Value} {E : Value → Shared → Prop} {s : Shared}
theorem law_ok {ns : List Int} {nl : Addr} {vals : List Value} {Q : Value → Shared → Prop} (room : Room A 130) (hu : A.units + 3 + 64 < cLine) (G : GX w mg mb s.heap) (hsc : s.heap.IsList nl vals.toArray) (hi : IntsAre vals ns) (hz : ns.length ≤ 63)
    (h : ∀ s', Now s s' → Q (.bool true) s') : wpAny (model PR w) A (call (.ref 181) [.ref nl]) Q E s := by
  refine enter_law G.gc room.lt fun s₁ m pm cd k₁ σ hm => ?_
  have room' := room.deeper (eL s.heap.objs.size pm cd)
  have hu' : (A.deeper (eL s.heap.objs.size pm cd)).units + 64 < cLine := hu
  generalize A.deeper (eL s.heap.objs.size pm cd) = A' at room' hu' ⊢
  have h9 := nums_len ns
  -- numbers
  refine wpAny_execs_cons (wpAny_Assign_Name ?_)
  show wpAny _ _ (eval numsExpr (eL s.heap.objs.size pm cd)) _ _ _
  refine law_nums room'.hh G.gc σ hsc hi hz hm ?_
  intro s₂ D vs₂ c₂ n₂ hD hvD
  refine ls_st (σ.now n₂) fun s₃ σ₃ q₃ => ?_
  have hD₃ := q₃ _ _ _ _ rfl hD
  have a1 := upd_same (m := m) (x := Str.ofString "numbers") (v := .ref D)
  generalize upd m (Str.ofString "numbers") (.ref D) = M at σ₃ a1
  clear q₃ hD n₂ σ
  -- tree, text, places = _law_drawn(numbers)
  refine wpAny_execs_cons ?_
  refine Assign_Tuple ?_
  refine ev_callE (G.gc.keeps σ₃.base) t_drawn f_drawn rfl (spliced_more (ls_name σ₃ a1 (spliced_none ⟨fun _ _ e => e, ?_⟩)))
  refine drawn_ok (G.keeps σ₃.base) (room'.mono (by omega)) hD₃ hvD (fun e => by rw [e] at h9; simp at h9) (by omega) fun s₄ r Z0 P x t vsP cP c0 rr n₄ hr PL hT hx hP hvP => ?_
  refine wpAny_assign_Tuple room'.hh ⟨_, hr, rfl, _, rfl⟩ rfl rfl fun h₅ hx₅ => ?_
  have n₅ : Now s₃ { s₄ with heap := h₅ } := ⟨fun b o e => hx₅ b o (Nat.ne_of_lt (Heap.lt_size (n₄.ext _ _ e))) (n₄.ext _ _ e), n₄.os, n₄.bare⟩
  have e45 : Ext s₄.heap h₅ := fun b o e => hx₅ b o (Nat.ne_of_lt (Heap.lt_size e)) e
  have σ₅ := σ₃.now n₅
  show wpAny _ _ (do holding [_, _] (assign (.Name (Str.ofString "tree") _) _ (.ref Z0)); do holding [_] (assign (.Name (Str.ofString "text") _) _ (.str x t)); do holding [] (assign (.Name (Str.ofString "places") _) _ (.ref P)); pure ()) _ _ _
  refine wpAny_bind (wpAny_holding (wpAny_assign_Name (ls_st σ₅ fun s₆ σ₆ q₆ => ?_)))
  refine wpAny_bind (wpAny_holding (wpAny_assign_Name (ls_st σ₆ fun s₇ σ₇ q₇ => ?_)))
  refine wpAny_bind (wpAny_holding (wpAny_assign_Name (ls_stP σ₇ fun s₈ σ₈ q₈ => wpAny_pure ?_)))
  have q48 := (Sq.ext e45).trans (q₆.trans (q₇.trans q₈))
  have hT₈ := TreeAt.sq q48 _ _ hT
  have hP₈ := q48 _ _ _ _ rfl hP
  have hD₈ := q48 _ _ _ _ rfl (n₄.ext _ _ hD₃)
  have b0 : (upd (upd M (Str.ofString "tree") (.ref Z0)) (Str.ofString "text") (.str x t)) (Str.ofString "numbers") = some (.ref D) := (upd_ne (by decide)).trans ((upd_ne (by decide)).trans a1)
  have b1 : (upd (upd M (Str.ofString "tree") (.ref Z0)) (Str.ofString "text") (.str x t)) (Str.ofString "text") = some (.str x t) := upd_same
  have b2 : (upd (upd M (Str.ofString "tree") (.ref Z0)) (Str.ofString "text") (.str x t)) (Str.ofString "tree") = some (.ref Z0) := (upd_ne (by decide)).trans upd_same
  generalize upd (upd M (Str.ofString "tree") (.ref Z0)) (Str.ofString "text") (.str x t) = M2 at σ₈ b0 b1 b2
  clear σ₃ σ₅ σ₆ σ₇ q₆ q₇ q₈ q48 e45 n₅ hx₅ hr hT hP hD₃ n₄ a1
  -- ladder
  refine wpAny_execs_cons (wpAny_Assign_Name ?_)
  show wpAny _ _ (eval ladExpr (eL s.heap.objs.size pm cd)) _ _ _
  refine law_lad room'.hh (G.gc.keeps σ₈.base) ?_
  intro s₉ lD lvs k₉ hlD hlv
  refine ls_stL (σ₈.now k₉.now) fun s₁₀ σ₁₀ q₁₀ => ?_
  have q := (Sq.ext k₉.ext).trans q₁₀
  have hT₁₀ := TreeAt.sq q _ _ hT₈
  have hP₁₀ := q _ _ _ _ rfl hP₈
  have hD₁₀ := q _ _ _ _ rfl hD₈
  have hlD₁₀ := q₁₀ _ _ _ _ rfl hlD
  clear q q₁₀ σ₈ hT₈ hP₈ hD₈ hlD k₉
  -- worths
  show wpAny _ _ (execs (lawBody.drop 3) (eL s.heap.objs.size pm cd)) _ _ _
  refine law_worths room'.hh σ₁₀ hD₁₀ hvD (by omega) hlD₁₀ hlv b0 fun s₁₁ W σ₁₁ q₁₁ hW => ?_
  refine law_late (room'.mono (by omega)) hu' G σ₁₁ PL (by omega) hx (TreeAt.sq q₁₁ _ _ hT₁₀) hW (q₁₁ _ _ _ _ rfl hP₁₀) hvP ((upd_ne (by decide)).trans b1) ((upd_ne (by decide)).trans b2) upd_same fun s' h1 h2 h3 => h s' ⟨h1, h2, h3⟩
end
end Mine

namespace Mine
section
variable {w : World} {mg mb : Str → Option Value} {h : Heap}
theorem n_tab : ∀ p ∈ gtab, nsIn (KF w) mainGlobals p.1 = some (some p.2) := by
  intro p hp
  simp only [gtab, List.mem_cons, List.not_mem_nil, or_false] at hp
  rcases hp with rfl | rfl | rfl | rfl | rfl | rfl | rfl | rfl | rfl | rfl | rfl | rfl
  all_goals rfl
theorem n_bt : ∀ p ∈ bvals, nsIn (KF w) mainGlobals p.1 = some none := by
  intro p hp
  simp only [bvals, List.mem_cons, List.not_mem_nil, or_false] at hp
  rcases hp with rfl | rfl | rfl | rfl | rfl | rfl | rfl | rfl | rfl | rfl | rfl
  all_goals rfl
theorem n_fn : ∀ p ∈ fns, ∃ o pm cd, (KF w).lookup p.1 = some o ∧ o.data = .func (Calls.docDef p.2.1 (fnArgs p.2.2) (fnBody p.2.2) (fnScope p.2.2) pm cd .none) ∧ codeIn (KF w) cd p.2.1 = true := by
  intro p hp
  simp only [fns, List.mem_cons, List.not_mem_nil, or_false] at hp
  rcases hp with rfl | rfl | rfl | rfl | rfl | rfl | rfl | rfl | rfl | rfl | rfl
  all_goals exact ⟨_, _, _, rfl, rfl, rfl⟩
theorem n_nt : ∃ t, nsIn (KF w) mainGlobals (Str.ofString "NT_OFFSET") = some (some (.int 256 t)) := ⟨_, rfl⟩
theorem n_em : ∃ t, nsIn (KF w) mainGlobals (Str.ofString "ENDMARKER") = some (some (.int 0 t)) := ⟨_, rfl⟩
theorem n_law : nsIn (KF w) mainGlobals (Str.ofString "law") = some (some (.ref 181)) := rfl
theorem b_ne : ∀ p ∈ bvals, p.1 ≠ Str.ofString "__name__" := by
  intro p hp
  simp only [bvals, List.mem_cons, List.not_mem_nil, or_false] at hp
  rcases hp with rfl | rfl | rfl | rfl | rfl | rfl | rfl | rfl | rfl | rfl | rfl
  all_goals decide
theorem gc_of {p : Program} {loose : List Str} {mean : ExcName → Option Value} (T : Top p loose mean mg mb h) (X : (KF w).In h) : GC mg mb h :=
  ⟨T.g, T.b, T.nolimit, T.nodigits, fun q hq => mg_of X T.g (n_tab q hq), fun q hq => ⟨mg_none_of X T.g (n_bt q hq), (T.builtins q.1 (b_ne q hq)).trans (bvals_ok q hq)⟩,
    fun q hq => let ⟨o, pm, cd, h1, h2, h3⟩ := n_fn (w := w) q hq; ⟨o, pm, cd, X _ _ h1, h2, codeRec_of X h3⟩,
    let ⟨t, e⟩ := n_nt (w := w); ⟨t, mg_of X T.g e⟩, let ⟨t, e⟩ := n_em (w := w); ⟨t, mg_of X T.g e⟩⟩
end
end Mine

namespace Mine
theorem said_ok : PySem.Challenge.rw_wf0056_01.wellSaid = true := by
  rw [PySem.W.Fast.te9446332074065402090]
  kernel_rfl
abbrev HK : Hook := kHook KS KA ka_ok
theorem left_hk : LeftO PySem.Challenge.rw_wf0056_01.row.prog qv looseL (fun s => xlAt qv [] s && recOk (RowW.records PySem.Challenge.rw_wf0056_01.row.toRowW) s) HK.obs HK.val 5000 := left_ok
end Mine
theorem PySem.Challenge.cw_wf0056_01_holds : PySem.Challenge.rw_wf0056_01.Holds := by
  refine holds_law Mine.said_ok fun said => ?_
  refine PySem.W.holds_open (r := PySem.Challenge.rw_wf0056_01.row) (q := Mine.qv) (loose := Mine.looseL) (Xt := fun s => xlAt Mine.qv [] s && recOk (RowW.records PySem.Challenge.rw_wf0056_01.row.toRowW) s) (XP := XL Mine.qv []) (Yf := Mine.HK.obs) (Ya := Mine.HK.val) (YP := Mine.HK.says) (N := 5000)
    Mine.left_hk Mine.HK.of Mine.HK.keeps (fun s e => xl_of s (Bool.and_eq_true_iff.mp e).1) XL.keeps (by rfl) (by rfl) (by rfl) (fun s e => recFacts_of (Bool.and_eq_true_iff.mp e).2) (by rfl) said (by decide +kernel) ⟨rfl, rfl, rfl, rfl, rfl, by decide +kernel⟩ ?_ ?_
  · exact ⟨[WData.list []], by decide +kernel, by decide +kernel⟩
  intro w s₀ s₁ mg mb G Y fa o pm cd doc dV kV ho hd' hcd hD hmg hg args vals as hpre hlay hrd hwl hlo
  have KX : (Mine.KF w).In s₁.heap := kIn_of Y
  have GG : Mine.GX w mg mb s₁.heap := ⟨Mine.gc_of G.T KX, KX⟩
  have hfa : fa = 181 := by
    have := mg_of KX G.T.g Mine.n_law
    rw [hmg] at this
    cases this
    rfl
  clear ho hcd hD hd' hmg G Y
  wrow_args hpre hlay hrd hwl hlo
  rename_i ns _ _ _ _ _ _ _ nl vals _ hL _ _ _ hI _ hc _
  subst hfa
  refine Mine.law_ok (w := w) (A := callerA) ⟨rfl, by decide⟩ (by decide) GG hL hI (by omega) fun s' n => ?_
  refine ⟨.inl ⟨_, .bool true, [], rfl, fun _ => rfl, ?_, ?_, ?_⟩, .of_keep n.ext, n.os, n.bare ?_⟩
  · exact .bool true
  · generalize [ofPy (PyData.list (List.map PyData.int ns))] = LL
    kernel_rfl
  · exact fun _ => ⟨List.nodup_nil, fun _ ha => nomatch ha⟩
  · rw [hg]
    intro x hx
    simp at hx
