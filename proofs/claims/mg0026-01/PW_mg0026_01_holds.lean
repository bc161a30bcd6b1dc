import PyProof.Rows.All
import Wide.All
import OpenK.AllK
import Wide.FinOn
import Flt.Ops
import PySem.Challenge.RW_mg0026_01
set_option Elab.async false
section
open PySem PySem.W PyProof.Rows
namespace Mine
set_option maxRecDepth 100000
set_option maxHeartbeats 4000000

/-- the program's statements and defs, by their place -/
noncomputable def st (n : Nat) : Stmt := PySem.Challenge.pw_mg0026_01.main.body.getD n (.Pass ⟨0, 0, 0, 0⟩)
noncomputable def mkFd (n cd : Nat) (pm : Value) : FuncData := match st n with
  | .FunctionDef name args body _ _ _ scope _ _ _ => fnOf name name args body scope .none .none .none pm none (.ref cd) .none
  | _ => default
noncomputable def fnBody (n : Nat) : List Stmt := match st n with
  | .FunctionDef _ _ body .. => body
  | _ => []
noncomputable def fnScope (n : Nat) : Scope := match st n with
  | .FunctionDef _ _ _ _ _ _ scope .. => scope
  | _ => default
noncomputable def fnNm (n : Nat) : Str := match st n with
  | .FunctionDef name .. => name
  | _ => Str.empty

noncomputable def StIn (h h' : Heap) : Prop := ∀ b o, h.get? b = some o → h'.get? b = some o
theorem StIn.refl (h : Heap) : StIn h h := fun _ _ e => e
theorem StIn.trans {a b c : Heap} (x : StIn a b) (y : StIn b c) : StIn a c := fun p o e => y p o (x p o e)
theorem StIn.push {a b : Heap} (x : StIn a b) (o : Obj) : StIn a (b.push o) := fun p o' e => Heap.get?_push_of_some _ (x p o' e)
theorem StIn.same {a h h' : Heap} {L : Addr} (x : StIn a h) (hL : a.get? L = none) (s : Heap.SameBut L h h') : StIn a h' := fun b o e =>
  (s.2 b (fun q => by rw [q, hL] at e; cases e)).trans (x b o e)
theorem StIn.extBut {a h h' : Heap} {L : Addr} (x : StIn a h) (hL : a.get? L = none) (s : Heap.ExtBut L h h') : StIn a h' := fun b o e =>
  s b o (fun q => by rw [q, hL] at e; cases e) (x b o e)
theorem StIn.isList {h h' : Heap} {a : Addr} {l : Array Value} (x : StIn h h') (y : h.IsList a l) : h'.IsList a l := let ⟨o, e, r⟩ := y; ⟨o, x _ _ e, r⟩
theorem StIn.ns {h h' : Heap} {a : Addr} {m : Str → Option Value} (x : StIn h h') (y : h.Ns a m) : h'.Ns a m := y.keeps x
theorem hide_in (h : Heap) (H : Addr) : StIn (h.hide H) h := fun _ _ e => Heap.of_hide e
theorem hide_st {g h : Heap} {H : Addr} (x : StIn g h) (gH : g.get? H = none) : StIn g (h.hide H) := fun b o e =>
  (Heap.hide_ne h (fun (q : b = H) => by rw [q, gH] at e; cases e)).trans (x b o e)

/-- a plain list object -/
noncomputable def LOf (h : Heap) (a : Addr) (items : Array Value) : Prop := ∃ n, IsL h a items n
theorem LOf.isList {h : Heap} {a : Addr} {l : Array Value} (x : LOf h a l) : h.IsList a l := let ⟨n, e⟩ := x; ⟨_, e, rfl, n, rfl⟩
theorem LOf.same {h h' : Heap} {a b : Addr} {l : Array Value} (x : LOf h a l) (s : Heap.SameBut b h h') (ne : a ≠ b) : LOf h' a l := let ⟨n, e⟩ := x; ⟨n, (s.2 a ne).trans e⟩
theorem LOf.ext {h h' : Heap} {a b : Addr} {l : Array Value} (x : LOf h a l) (s : Heap.ExtBut b h h') (ne : a ≠ b) : LOf h' a l := let ⟨n, e⟩ := x; ⟨n, s a _ ne e⟩
theorem StIn.lof {h h' : Heap} {a : Addr} {l : Array Value} (x : StIn h h') (y : LOf h a l) : LOf h' a l := let ⟨n, e⟩ := y; ⟨n, x _ _ e⟩
theorem LOf.get {h : Heap} {a : Addr} {l : Array Value} (x : LOf h a l) : ∃ o, h.get? a = some o := let ⟨_, e⟩ := x; ⟨_, e⟩
theorem setL {prog : Program} {w : World} {A : Around} {E : Value → Shared → Prop} {s : Shared} {l : Addr} {items : Array Value} {k : Int} {t : Tok} {v : Value} {Q : Unit → Shared → Prop} (hl : LOf s.heap l items)
    (h0 : 0 ≤ k) (hfit : k < 2 ^ 63) (hn : k < items.size)
    (hQ : ∀ h', LOf h' l (items.setIfInBounds k.toNat v) → Heap.SameBut l s.heap h' → Q () { s with heap := h' }) :
    wpAny (model prog w) A (setItem (.ref l) (.int k t) v) Q E s := by
  obtain ⟨n, e⟩ := hl
  exact ki_setAt e h0 hfit hn (hQ _ ⟨_, IsL.update e _⟩ (Heap.SameBut.update ..))

/-- one function of the text -/
structure FnAt (h : Heap) (f n cd : Nat) : Prop where
  obj : ∃ o pm, h.get? f = some o ∧ o.data = .func (mkFd n cd pm)
  code : h.CodeRec (.ref cd) (fnNm n)
theorem FnAt.keeps {h h' : Heap} {f n cd : Nat} (x : FnAt h f n cd) (k : StIn h h') : FnAt h' f n cd :=
  ⟨let ⟨o, pm, a, b⟩ := x.obj; ⟨o, pm, k _ _ a, b⟩, x.code.keeps k⟩

noncomputable def globsAre (mg : Str → Option Value) : Prop :=
  mg "heappop" = some (.ref 28) ∧ mg "heapreplace" = some (.ref 35) ∧ mg "heapify" = some (.ref 42) ∧ mg "_siftdown" = some (.ref 49) ∧ mg "_siftup" = some (.ref 56) ∧
  mg "_law_crosswise" = some (.ref 63) ∧ mg "_law_rows" = some (.ref 70) ∧ mg "_law_place" = some (.ref 77) ∧ mg "_law_due" = some (.ref 82) ∧ mg "cmp_to_key" = some (.ref 21) ∧
  mg "len" = none ∧ mg "range" = none ∧ mg "reversed" = none ∧ mg "min" = none ∧ mg "max" = none ∧ mg "sum" = none
noncomputable def bltsAre (mb : Str → Option Value) : Prop :=
  mb "len" = some (.builtin "len") ∧ mb "range" = some (.type "range") ∧ mb "reversed" = some (.type "reversed") ∧ mb "min" = some (.builtin "min") ∧ mb "max" = some (.builtin "max") ∧ mb "sum" = some (.builtin "sum")
structure Base (h : Heap) : Prop where
  lim : h.NoLimit
  glob : ∃ mg, h.Ns mainGlobals mg ∧ globsAre mg
  blt : ∃ mb, h.Ns builtinsNs mb ∧ bltsAre mb
  f28 : FnAt h 28 3 27
  f35 : FnAt h 35 4 34
  f42 : FnAt h 42 5 41
  f49 : FnAt h 49 6 48
  f56 : FnAt h 56 7 55
  f63 : FnAt h 63 9 62
  f70 : FnAt h 70 10 69
  f77 : FnAt h 77 11 76
  f82 : FnAt h 82 12 81
theorem Base.keeps {h h' : Heap} (B : Base h) (k : StIn h h') : Base h' :=
  ⟨B.lim.keeps k, let ⟨mg, a, b⟩ := B.glob; ⟨mg, a.keeps k, b⟩, let ⟨mb, a, b⟩ := B.blt; ⟨mb, a.keeps k, b⟩, B.f28.keeps k, B.f35.keeps k, B.f42.keeps k, B.f49.keeps k, B.f56.keeps k, B.f63.keeps k, B.f70.keeps k, B.f77.keeps k, B.f82.keeps k⟩

/-- room -/
structure Room (A : Around) (d u : Nat) : Prop where
  handled : A.handled = none
  depth : A.depth ≤ d
  units : A.units ≤ u
theorem Room.deeper {A : Around} {d u : Nat} {env : Env} (r : Room A d u) : Room (A.deeper env) (d + 1) (u + 3) := ⟨r.handled, Nat.add_le_add_right r.depth 1, Nat.add_le_add_right r.units 3⟩
theorem Room.mono {A : Around} {d u d' u' : Nat} (r : Room A d u) (hd : d ≤ d') (hu : u ≤ u') : Room A d' u' := ⟨r.handled, Nat.le_trans r.depth hd, Nat.le_trans r.units hu⟩
noncomputable def Amax (d u : Nat) : Around := { handled := none, depth := d, frames := none, guards := none, units := u }
theorem wpAny_max {α : Type} {M : Model} {A : Around} {d u : Nat} {t : Sem α} {Q : α → Shared → Prop} {E : Value → Shared → Prop} {s : Shared} (r : Room A d u) (h : wpAny M (Amax d u) t Q E s) : wpAny M A t Q E s :=
  fun Γ p hΓ => h Γ p ⟨hΓ.1.trans r.handled, Nat.le_trans hΓ.2.1 r.depth, (fun _ e => by cases e), (fun _ e => by cases e), Nat.le_trans hΓ.2.2.2.2 r.units⟩

/-- calling one of the text's functions -/
theorem callFn {w : World} {A : Around} {s : Shared} {f n cd : Nat} {d u : Nat} {args : List Value} {Q : Value → Shared → Prop} {E : Value → Shared → Prop} {binds : List (Str × Value)}
    (X : FnAt s.heap f n cd) (lim : s.heap.NoLimit) (R : Room A d u) (hd : d < 900)
    (hbind : ∀ pm, bindArgs (mkFd n cd pm) ⟨args, []⟩ = pure binds)
    (hcell : ∀ x ∈ (fnScope n).names, x.2 ≠ .cell) (hloc : (binds.all fun x => decide ((fnScope n).names.lookup x.1 = some .local)) = true)
    (hq : ∀ pm, (mkFd n cd pm).qualname = fnNm n ∧ (mkFd n cd pm).code = .ref cd ∧ (mkFd n cd pm).body = .stmts (fnBody n) ∧ (mkFd n cd pm).scope = fnScope n)
    (hk : (fnScope n).isCoroutine = false ∧ (fnScope n).isGenerator = false ∧ (fnScope n).kind = .function)
    (h : ∀ pm h₀ L, L = s.heap.objs.size → h₀.Ns L (fun x => binds.reverse.lookup x) → StIn s.heap h₀ → s.heap.get? L = none → Room (A.deeper (callEnv (mkFd n cd pm) L f)) (d + 1) (u + 3) →
      ∀ E', wpAny (model PySem.Challenge.pw_mg0026_01 w) (A.deeper (callEnv (mkFd n cd pm) L f)) (execs (fnBody n) (callEnv (mkFd n cd pm) L f)) (fun fl s' => Q (match fl with | .ret v => v | _ => .none) s')
        E' { s with heap := h₀, toks := s.toks + binds.length }) :
    wpAny (model PySem.Challenge.pw_mg0026_01 w) A (call (.ref f) args) Q E s := by
  obtain ⟨o, pm, ho, hdt⟩ := X.obj
  refine wpAny_call (codeAny_call_def (fd := mkFd n cd pm) (body := fnBody n) (binds := binds) ?_ ho hdt lim ?_ (hq pm).2.2.1 (BindsTo.of_eq (hbind pm)) ?_ ?_ ?_ ?_ ?_ ?_)
  · have := R.depth; show A.depth < 1000; omega
  · rw [(hq pm).1, (hq pm).2.1]; exact X.code
  · rw [(hq pm).2.2.2]; exact hcell
  · rw [(hq pm).2.2.2]; exact locs hloc
  · intro h₀ hns hkeep
    refine h pm h₀ _ rfl hns hkeep ?_ R.deeper _
    cases e : s.heap.get? s.heap.objs.size with
    | none => rfl
    | some o => exact absurd (Heap.lt_size e) (Nat.lt_irrefl _)
  · rw [(hq pm).2.2.2]; exact hk.1
  · rw [(hq pm).2.2.2]; exact hk.2.1
  · rw [(hq pm).2.2.2]; exact hk.2.2

section
variable {w : World} {M : Model} {A : Around} {E : Value → Shared → Prop} {s : Shared} {env : Env} {g : Heap}
theorem ldG {x : Str} {pos : Pos} {v : Value} {Q : Value → Shared → Prop} (B : Base g) (k : StIn g s.heap) (hv : ∀ mg, globsAre mg → mg x = some v) (h : Q v s)
    (hg : env.globals = mainGlobals := by rfl) (hk : env.scope.kind = .function := by rfl) (hx : env.kindOf x = some .globalImplicit := by rfl) (hd : (x == ("__debug__" : Str)) = false := by decide) :
    wpAny M A (eval (.Name x pos) env) Q E s := by
  obtain ⟨mg, hn, hm⟩ := B.glob
  exact Calls.Name_function_global hk hx (Calls.loadGlobal_global (hg ▸ k.ns hn) (hv mg hm) h) hd
theorem ldB {x : Str} {pos : Pos} {v : Value} {Q : Value → Shared → Prop} (B : Base g) (k : StIn g s.heap) (hn : ∀ mg, globsAre mg → mg x = none) (hv : ∀ mb, bltsAre mb → mb x = some v) (h : Q v s)
    (hg : env.globals = mainGlobals := by rfl) (hb : env.builtins = builtinsNs := by rfl) (hk : env.scope.kind = .function := by rfl) (hx : env.kindOf x = some .globalImplicit := by rfl) (hd : (x == ("__debug__" : Str)) = false := by decide) :
    wpAny M A (eval (.Name x pos) env) Q E s := by
  obtain ⟨mg, hng, hm⟩ := B.glob
  obtain ⟨mb, hnb, hmb⟩ := B.blt
  exact Calls.Name_function_global hk hx (Calls.loadGlobal_builtin (hg ▸ k.ns hng) (hn mg hm) (hb ▸ k.ns hnb) (hv mb hmb) h) hd
theorem callB1 {f : Str} {p pos : Pos} {e1 : Expr} {id : String} {Q : Value → Shared → Prop} (hn : ∀ Q, Q (.builtin id) s → wpAny M A (eval (.Name f p) env) Q E s)
    (h : wpAny M A (eval e1 env) (fun v s1 => wpAny M A (call (.builtin id) [v]) Q E s1) E s) (hs : starEach [e1] env = [(false, eval e1 env)] := by rfl) :
    wpAny M A (eval (.Call (.Name f p) [e1] [] pos) env) Q E s := by
  refine wpAny_Call_Name_kw (hn _ ?_)
  rw [hs]
  exact Calls.callWith_builtin rfl (Calls.evalArgs_plain (Calls.spliced_cons (wpAny_mono h (fun _ _ h1 => Calls.spliced_nil h1) fun _ _ x => x)))
theorem callB2 {f : Str} {p pos : Pos} {e1 e2 : Expr} {id : String} {Q : Value → Shared → Prop} (hn : ∀ Q, Q (.builtin id) s → wpAny M A (eval (.Name f p) env) Q E s)
    (h : wpAny M A (eval e1 env) (fun v s1 => wpAny M A (eval e2 env) (fun v2 s2 => wpAny M A (call (.builtin id) [v, v2]) Q E s2) E s1) E s) (hs : starEach [e1, e2] env = [(false, eval e1 env), (false, eval e2 env)] := by rfl) :
    wpAny M A (eval (.Call (.Name f p) [e1, e2] [] pos) env) Q E s := by
  refine wpAny_Call_Name_kw (hn _ ?_)
  rw [hs]
  exact Calls.callWith_builtin rfl (Calls.evalArgs_plain (Calls.spliced_cons (wpAny_mono h (fun _ _ h1 => Calls.spliced_cons (wpAny_mono h1 (fun _ _ h2 => Calls.spliced_nil h2) fun _ _ x => x)) fun _ _ x => x)))
theorem callT1 {f : Str} {p pos : Pos} {e1 : Expr} {T : String} {Q : Value → Shared → Prop} (hn : ∀ Q, Q (.type T) s → wpAny M A (eval (.Name f p) env) Q E s)
    (h : wpAny M A (eval e1 env) (fun v s1 => wpAny M A (call (.type T) [v]) Q E s1) E s) (hs : starEach [e1] env = [(false, eval e1 env)] := by rfl) :
    wpAny M A (eval (.Call (.Name f p) [e1] [] pos) env) Q E s := by
  refine wpAny_Call_Name_kw (hn _ ?_)
  rw [hs]
  exact PySem.callWith_type rfl (Calls.evalArgs_plain (Calls.spliced_cons (wpAny_mono h (fun _ _ h1 => Calls.spliced_nil h1) fun _ _ x => x)))
theorem callT2 {f : Str} {p pos : Pos} {e1 e2 : Expr} {T : String} {Q : Value → Shared → Prop} (hn : ∀ Q, Q (.type T) s → wpAny M A (eval (.Name f p) env) Q E s)
    (h : wpAny M A (eval e1 env) (fun v s1 => wpAny M A (eval e2 env) (fun v2 s2 => wpAny M A (call (.type T) [v, v2]) Q E s2) E s1) E s) (hs : starEach [e1, e2] env = [(false, eval e1 env), (false, eval e2 env)] := by rfl) :
    wpAny M A (eval (.Call (.Name f p) [e1, e2] [] pos) env) Q E s := by
  refine wpAny_Call_Name_kw (hn _ ?_)
  rw [hs]
  exact PySem.callWith_type rfl (Calls.evalArgs_plain (Calls.spliced_cons (wpAny_mono h (fun _ _ h1 => Calls.spliced_cons (wpAny_mono h1 (fun _ _ h2 => Calls.spliced_nil h2) fun _ _ x => x)) fun _ _ x => x)))

/-- a function of the text is met: the fact that it stands where it is called -/
noncomputable def FnHere (h : Heap) (f : Addr) : Prop := ∃ o fd, h.get? f = some o ∧ o.data = .func fd
theorem FnAt.here {h : Heap} {f n cd : Nat} (x : FnAt h f n cd) : FnHere h f := let ⟨o, _, a, b⟩ := x.obj; ⟨o, _, a, b⟩
theorem callWith_fn {pos : Pos} {a : Addr} {args : List (Bool × Sem Value)} {Q : Value → Shared → Prop}
    (h : wpAny M A (evalArgs (.ref a) true args []) (fun x s1 => FnHere s1.heap a ∧ wpAny M A (call (.ref a) x.pos x.kw) Q E s1) E s) (hp : args.any (·.1) = false) (hl : args.length ≤ 30) :
    wpAny M A (callWith pos (.ref a) [] args []) Q E s := by
  unfold callWith
  refine wpAny_bind (wpAny_holding (wpAny_mono h (fun x s1 h1 => ?_) fun _ _ x => x))
  obtain ⟨⟨o, fd, ho, hd⟩, h1⟩ := h1
  refine wpAny_bind (wpAny_standAt ?_)
  refine wpAny_bind (m := keeperOf (.ref a)) ?_
  unfold keeperOf
  refine wpAny_bind (wpAny_load ho ?_)
  rw [hd]
  refine wpAny_pure ?_
  simp only [hp, List.any_nil, Bool.or_false]
  have : ¬ (args.length + 2 * ([] : List (Option Str × Sem Value)).length > 30) := by simp; omega
  rw [if_neg this]
  refine wpAny_bind ?_
  unfold callMarked
  exact Calls.wpAny_keep (wpAny_mono h1 (fun r s2 hr => wpAny_bind (wpAny_holding (wpAny_point (wpAny_pure hr)))) fun _ _ x => x)
theorem callF1 {f : Str} {p pos : Pos} {e1 : Expr} {a : Addr} {Q : Value → Shared → Prop} (hn : ∀ Q, Q (.ref a) s → wpAny M A (eval (.Name f p) env) Q E s)
    (h : wpAny M A (eval e1 env) (fun v s1 => FnHere s1.heap a ∧ wpAny M A (call (.ref a) [v]) Q E s1) E s) (hs : starEach [e1] env = [(false, eval e1 env)] := by rfl) :
    wpAny M A (eval (.Call (.Name f p) [e1] [] pos) env) Q E s := by
  refine wpAny_Call_Name_kw (hn _ ?_)
  rw [hs]
  exact callWith_fn (Calls.evalArgs_plain (Calls.spliced_cons (wpAny_mono h (fun v s1 h1 => Calls.spliced_nil h1) fun _ _ x => x))) rfl (by simp [backTo])
theorem callF2 {f : Str} {p pos : Pos} {e1 e2 : Expr} {a : Addr} {Q : Value → Shared → Prop} (hn : ∀ Q, Q (.ref a) s → wpAny M A (eval (.Name f p) env) Q E s)
    (h : wpAny M A (eval e1 env) (fun v s1 => wpAny M A (eval e2 env) (fun v2 s2 => FnHere s2.heap a ∧ wpAny M A (call (.ref a) [v, v2]) Q E s2) E s1) E s) (hs : starEach [e1, e2] env = [(false, eval e1 env), (false, eval e2 env)] := by rfl) :
    wpAny M A (eval (.Call (.Name f p) [e1, e2] [] pos) env) Q E s := by
  refine wpAny_Call_Name_kw (hn _ ?_)
  rw [hs]
  exact callWith_fn (Calls.evalArgs_plain (Calls.spliced_cons (wpAny_mono h (fun v s1 h1 => Calls.spliced_cons (wpAny_mono h1 (fun _ _ h2 => Calls.spliced_nil h2) fun _ _ x => x)) fun _ _ x => x))) rfl (by simp [backTo])
theorem callF3 {f : Str} {p pos : Pos} {e1 e2 e3 : Expr} {a : Addr} {Q : Value → Shared → Prop} (hn : ∀ Q, Q (.ref a) s → wpAny M A (eval (.Name f p) env) Q E s)
    (h : wpAny M A (eval e1 env) (fun v s1 => wpAny M A (eval e2 env) (fun v2 s2 => wpAny M A (eval e3 env) (fun v3 s3 => FnHere s3.heap a ∧ wpAny M A (call (.ref a) [v, v2, v3]) Q E s3) E s2) E s1) E s)
    (hs : starEach [e1, e2, e3] env = [(false, eval e1 env), (false, eval e2 env), (false, eval e3 env)] := by rfl) :
    wpAny M A (eval (.Call (.Name f p) [e1, e2, e3] [] pos) env) Q E s := by
  refine wpAny_Call_Name_kw (hn _ ?_)
  rw [hs]
  exact callWith_fn (Calls.evalArgs_plain (Calls.spliced_cons (wpAny_mono h (fun v s1 h1 => Calls.spliced_cons (wpAny_mono h1 (fun _ _ h2 => Calls.spliced_cons (wpAny_mono h2 (fun _ _ h3 => Calls.spliced_nil h3) fun _ _ x => x)) fun _ _ x => x)) fun _ _ x => x))) rfl (by simp [backTo])
end
end Mine
end
section
open PySem PySem.W PyProof.Rows
namespace Mine
set_option maxRecDepth 100000
set_option maxHeartbeats 4000000

noncomputable def refs (xs : List Addr) : Array Value := (xs.map Value.ref).toArray
noncomputable def CmpOK (w : World) (g : Heap) (cmp : Addr → Addr → Bool) (S : Addr → Prop) : Prop :=
  ∀ (s : Shared) (A : Around) (x y : Addr) (Q : Value → Shared → Prop) (E : Value → Shared → Prop), StIn g s.heap → Room A 500 1000 → S x → S y →
    (∀ h' t', StIn s.heap h' → Q (.bool (cmp x y)) { s with heap := h', toks := t' }) →
    wpAny (model PySem.Challenge.pw_mg0026_01 w) A (compareOp .Lt (.ref x) (.ref y)) Q E s
theorem CmpOK.keeps {w : World} {g g' : Heap} {cmp : Addr → Addr → Bool} {S : Addr → Prop} (c : CmpOK w g cmp S) (k : StIn g g') : CmpOK w g' cmp S :=
  fun s A x y Q E k' => c s A x y Q E (k.trans k')

structure Fh (g : Heap) (L H : Addr) (h : Heap) (m : Str → Option Value) (xs : List Addr) : Prop where
  ns : h.Ns L m
  lst : LOf h H (refs xs)
  keep : StIn g h
  gL : g.get? L = none
  gH : g.get? H = none
  ne : L ≠ H
theorem Fh.st {g h h' : Heap} {L H : Addr} {m m' : Str → Option Value} {xs : List Addr} (F : Fh g L H h m xs) (n : h'.Ns L m') (s : Heap.SameBut L h h') : Fh g L H h' m' xs :=
  ⟨n, F.lst.same s F.ne.symm, F.keep.same F.gL s, F.gL, F.gH, F.ne⟩
theorem Fh.set {g h h' : Heap} {L H : Addr} {m : Str → Option Value} {xs xs' : List Addr} (F : Fh g L H h m xs) (n : LOf h' H (refs xs')) (s : Heap.SameBut H h h') : Fh g L H h' m xs' :=
  ⟨F.ns.sameBut s F.ne, n, F.keep.same F.gH s, F.gL, F.gH, F.ne⟩
theorem Fh.ext {g h h' : Heap} {L H : Addr} {m : Str → Option Value} {xs : List Addr} (F : Fh g L H h m xs) (s : StIn h h') : Fh g L H h' m xs :=
  ⟨s.ns F.ns, s.lof F.lst, F.keep.trans s, F.gL, F.gH, F.ne⟩

noncomputable def sd (cmp : Addr → Addr → Bool) (new : Addr) (start pos : Nat) (xs : List Addr) : List Addr :=
  if start < pos then
    if cmp new (xs.getD ((pos - 1) / 2) 0) then sd cmp new start ((pos - 1) / 2) (xs.set pos (xs.getD ((pos - 1) / 2) 0)) else xs.set pos new
  else xs.set pos new
termination_by pos
decreasing_by omega

theorem bind49 (pm a b c : Value) : bindArgs (mkFd 6 48 pm) ⟨[a, b, c], []⟩ = pure [(("heap" : Str), a), (("startpos" : Str), b), (("pos" : Str), c)] := by rfl
theorem siftdown_spec {w : World} {A : Around} {s : Shared} {g : Heap} {H : Addr} {cmp : Addr → Addr → Bool} {S : Addr → Prop} {xs : List Addr} {start pos : Nat} {t1 t2 : Tok}
    {Q : Value → Shared → Prop} {E : Value → Shared → Prop} (B : Base g) (R : Room A 400 500) (hg : StIn g s.heap) (gH : g.get? H = none) (hl : LOf s.heap H (refs xs)) (hC : CmpOK w g cmp S)
    (hxs : ∀ x ∈ xs, S x) (hp : pos < xs.length) (hlen : xs.length ≤ 1000)
    (h : ∀ h' t', StIn g h' → LOf h' H (refs (sd cmp (xs.getD pos 0) start pos xs)) → Q .none { s with heap := h', toks := t' }) :
    wpAny (model PySem.Challenge.pw_mg0026_01 w) A (call (.ref 49) [.ref H, .int start t1, .int pos t2]) Q E s := by
  refine callFn (n := 6) (cd := 48) (B.f49.keeps hg) (B.lim.keeps hg) R (by omega) (bind49 · _ _ _) (by decide) rfl (fun _ => ⟨rfl, rfl, rfl, rfl⟩) ⟨rfl, rfl, rfl⟩ ?_
  intro pm h₀ L hL hns hk hLn R' E'
  have hLg : g.get? L = none := by
    cases e : g.get? L with
    | none => rfl
    | some o => rw [hg _ _ e] at hLn; cases hLn
  have hne : L ≠ H := by
    obtain ⟨o, ho⟩ := hl.get
    intro e; rw [e, ho] at hLn; cases hLn
  have F0 : Fh g L H h₀ _ xs := ⟨hns, hk.lof hl, hg.trans hk, hLg, gH, hne⟩
  have hpos : (xs.map Value.ref)[(pos : Int).toNat]? = some (.ref (xs.getD pos 0)) := by
    simp [List.getD_eq_getElem?_getD, hp]
  refine wpAny_execs_cons (wpAny_Assign_Name (Subscript_ ?_))
  refine ldc rfl rfl F0.ns rfl ?_
  refine ldc rfl rfl F0.ns rfl ?_
  refine item_listL (l := xs.map Value.ref) F0.lst.isList (by omega) (by omega) hpos ?_
  refine wpAny_storeName_local rfl F0.ns (fun h1 hn1 hs1 => ?_)
  have F1 := F0.st hn1 hs1
  refine wpAny_execs_cons (wpAny_While ?_)
  generalize hnew : xs.getD pos 0 = new at *
  have tail : ∀ p xs' h' t' m t3, Fh g L H h' m xs' → p < xs'.length → xs'.length = xs.length → xs'.set p new = sd cmp new start pos xs → m "heap" = some (.ref H) → m "pos" = some (.int (p : Nat) t3) → m "newitem" = some (.ref new) →
      wpAny (model PySem.Challenge.pw_mg0026_01 w) (A.deeper (callEnv (mkFd 6 48 pm) L 49)) (execs ((fnBody 6).drop 2) (callEnv (mkFd 6 48 pm) L 49)) (fun fl s' => Q (match fl with | .ret v => v | _ => .none) s') E' { s with heap := h', toks := t' } := by
    intro p xs' h' t' m t3 F hp' hl' he m1 m3 m4
    refine wpAny_execs_cons (wpAny_Assign_Subscript ?_)
    refine ldc rfl rfl F.ns m4 ?_
    refine ldc rfl rfl F.ns m1 ?_
    refine ldc rfl rfl F.ns m3 ?_
    refine setL F.lst (by omega) (by omega) (by simp [refs]; omega) (fun h2 hl2 hs2 => ?_)
    refine wpAny_execs_nil ?_
    refine h h2 _ (F.keep.same gH hs2) ?_
    rw [← he]
    simpa [refs] using hl2
  refine codeAny_whileLoop (fun n s' => ∃ p xs' h' t' m t3, s' = { s with heap := h', toks := t' } ∧ Fh g L H h' m xs' ∧ n = p ∧ p < xs'.length ∧ xs'.length = xs.length ∧ (∀ x ∈ xs', S x) ∧ S new ∧
     sd cmp new start p xs' = sd cmp new start pos xs ∧ m "heap" = some (.ref H) ∧ m "startpos" = some (.int start t1) ∧ m "pos" = some (.int p t3) ∧ m "newitem" = some (.ref new)) ?_ pos ?_
  · rintro n s' ⟨p, xs', h', t', m, t3, rfl, F, rfl, hp', hlen', hS, hSn, hsd, m1, m2, m3, m4⟩
    refine wpAny_isTrue_Compare1 ?_
    refine ldc rfl rfl F.ns m3 ?_
    refine ldc rfl rfl F.ns m2 ?_
    refine gt_int ?_
    refine wpAny_truthy_bool ?_
    rw [sd] at hsd
    by_cases hc : start < n
    · rw [if_pos hc] at hsd
      rw [if_pos (by simp; omega)]
      refine wpAny_execs_cons (wpAny_Assign_Name (wpAny_BinOp (wpAny_BinOp ?_)))
      refine ldc rfl rfl F.ns m3 ?_
      refine wpAny_Constant_int ?_
      refine sub_int ?_
      refine wpAny_Constant_int ?_
      refine rshift_int (by omega) ?_
      have hpp : Int.fdiv ((n : Int) - 1) (2 ^ (1 : Int).toNat) = ((((n - 1) / 2 : Nat)) : Int) := by
        have : (2 ^ (1 : Int).toNat : Int) = 2 := rfl
        rw [this, Int.fdiv_eq_ediv_of_nonneg _ (by omega)]; omega
      rw [hpp]
      have hlt : (n - 1) / 2 < xs'.length := by omega
      generalize hq : (n - 1) / 2 = q at *
      refine wpAny_storeName_local rfl F.ns (fun h2 hn2 hs2 => ?_)
      have F2 := F.st hn2 hs2
      refine wpAny_execs_cons (wpAny_Assign_Name (Subscript_ ?_))
      refine ldc rfl rfl F2.ns m1 ?_
      refine ldc rfl rfl F2.ns rfl ?_
      refine item_listL (l := xs'.map Value.ref) (x := .ref (xs'.getD q 0)) F2.lst.isList (by omega) (by omega) (by simp [List.getD_eq_getElem?_getD, hlt]) ?_
      refine wpAny_storeName_local rfl F2.ns (fun h3 hn3 hs3 => ?_)
      have F3 := F2.st hn3 hs3
      have hSp : S (xs'.getD q 0) := hS _ (by simp [List.getD_eq_getElem?_getD, hlt])
      refine wpAny_execs_cons (wpAny_If (wpAny_isTrue_Compare1 ?_))
      refine ldc rfl rfl F3.ns m4 ?_
      refine ldc rfl rfl F3.ns rfl ?_
      refine hC _ _ _ _ _ _ F3.keep (R'.mono (by omega) (by omega)) hSn hSp (fun h4 t4 k4 => ?_)
      have F4 := F3.ext k4
      refine wpAny_truthy_bool ?_
      cases hcm : cmp new (xs'.getD q 0) with
      | true =>
        rw [if_pos rfl]
        rw [hcm, if_pos rfl] at hsd
        refine wpAny_execs_cons (wpAny_Assign_Subscript ?_)
        refine ldc rfl rfl F4.ns rfl ?_
        refine ldc rfl rfl F4.ns m1 ?_
        refine ldc rfl rfl F4.ns m3 ?_
        refine setL F4.lst (by omega) (by omega) (by simp [refs]; omega) (fun h5 hl5 hs5 => ?_)
        have F5 : Fh g L H h5 _ (xs'.set n (xs'.getD q 0)) := F4.set (by simpa [refs] using hl5) hs5
        refine wpAny_execs_cons (wpAny_Assign_Name ?_)
        refine ldc rfl rfl F5.ns rfl ?_
        refine wpAny_storeName_local rfl F5.ns (fun h6 hn6 hs6 => ?_)
        have F6 := F5.st hn6 hs6
        refine wpAny_execs_cons (wpAny_Continue ?_)
        refine ⟨q, by omega, q, _, h6, _, _, _, rfl, F6, rfl, by simpa using hlt, by simpa using hlen', ?_, hSn, hsd, m1, m2, rfl, m4⟩
        intro x hx
        rcases List.mem_or_eq_of_mem_set hx with hx | hx
        · exact hS x hx
        · exact hx ▸ hSp
      | false =>
        rw [if_neg (by simp)]
        rw [hcm, if_neg (by simp)] at hsd
        refine wpAny_execs_nil ?_
        refine wpAny_execs_cons (wpAny_Break ?_)
        exact tail n xs' h4 t4 _ _ F4 hp' hlen' hsd m1 m3 m4
    · rw [if_neg hc] at hsd
      rw [if_neg (by simp; omega)]
      refine wpAny_execs_nil ?_
      exact tail n xs' h' t' _ _ F hp' hlen' hsd m1 m3 m4
  · refine ⟨pos, xs, h1, _, _, t2, rfl, F1, rfl, hp, rfl, hxs, ?_, rfl, rfl, rfl, rfl, rfl⟩
    rw [← hnew]
    exact hxs _ (by simp [List.getD_eq_getElem?_getD, hp])
end Mine
end
section
open PySem PySem.W PyProof.Rows
namespace Mine
set_option maxRecDepth 100000
set_option maxHeartbeats 4000000

noncomputable def su (cmp : Addr → Addr → Bool) (n pos : Nat) (xs : List Addr) : Nat × List Addr :=
  if 2 * pos + 1 < n then
    if 2 * pos + 2 < n ∧ cmp (xs.getD (2 * pos + 1) 0) (xs.getD (2 * pos + 2) 0) = false then su cmp n (2 * pos + 2) (xs.set pos (xs.getD (2 * pos + 2) 0))
    else su cmp n (2 * pos + 1) (xs.set pos (xs.getD (2 * pos + 1) 0))
  else (pos, xs)
termination_by n - pos
decreasing_by all_goals omega
noncomputable def siftup (cmp : Addr → Addr → Bool) (pos : Nat) (xs : List Addr) : List Addr :=
  sd cmp (xs.getD pos 0) pos (su cmp xs.length pos xs).1 ((su cmp xs.length pos xs).2.set (su cmp xs.length pos xs).1 (xs.getD pos 0))

theorem getD_mem {xs : List Addr} {i : Nat} (h : i < xs.length) : xs.getD i 0 ∈ xs := by simp [List.getD_eq_getElem?_getD, h]
theorem getD_ref {xs : List Addr} {i : Nat} (h : i < xs.length) : (xs.map Value.ref)[(i : Int).toNat]? = some (.ref (xs.getD i 0)) := by simp [List.getD_eq_getElem?_getD, h]
theorem getD_refI {xs : List Addr} {k : Int} (i : Nat) (h : i < xs.length) (hk : k = (i : Int)) : (xs.map Value.ref)[k.toNat]? = some (.ref (xs.getD i 0)) := by subst hk; exact getD_ref h
theorem set_all {S : Addr → Prop} {xs : List Addr} {i : Nat} {a : Addr} (h : ∀ x ∈ xs, S x) (ha : S a) : ∀ x ∈ xs.set i a, S x := fun x hx =>
  (List.mem_or_eq_of_mem_set hx).elim (h x) fun e => e ▸ ha
theorem refs_size (xs : List Addr) : (refs xs).size = xs.length := by simp [refs]
theorem refs_set (xs : List Addr) (i : Nat) (a : Addr) : (refs xs).setIfInBounds (i : Int).toNat (.ref a) = refs (xs.set i a) := by simp [refs]
/-- behind a call that kept all but the list -/
theorem Fh.back {g h h' : Heap} {L H : Addr} {m : Str → Option Value} {xs xs' : List Addr} (F : Fh g L H h m xs) (k : StIn (h.hide H) h') (l : LOf h' H (refs xs')) : Fh g L H h' m xs' :=
  ⟨let ⟨o, es, ep, e, r⟩ := F.ns; ⟨o, es, ep, k _ _ ((Heap.hide_ne h F.ne).trans e), r⟩, l, (hide_st F.keep F.gH).trans k, F.gL, F.gH, F.ne⟩
theorem none_of {g h : Heap} {L : Addr} (hg : StIn g h) (hLn : h.get? L = none) : g.get? L = none := by
  cases e : g.get? L with
  | none => rfl
  | some o => rw [hg _ _ e] at hLn; cases hLn
theorem Fh.enter {g : Heap} {s : Shared} {h₀ : Heap} {L H : Addr} {m : Str → Option Value} {xs : List Addr} (hg : StIn g s.heap) (gH : g.get? H = none) (hl : LOf s.heap H (refs xs)) (hns : h₀.Ns L m) (hk : StIn s.heap h₀) (hLn : s.heap.get? L = none) : Fh g L H h₀ m xs := by
  refine ⟨hns, hk.lof hl, hg.trans hk, none_of hg hLn, gH, ?_⟩
  obtain ⟨o, ho⟩ := hl.get
  intro e; rw [e, ho] at hLn; cases hLn
theorem mulOk {a b : Int} (h1 : -(2 ^ 60) < a) (h2 : a < 2 ^ 60) : IntMulOk a b := IntMulOk.of_left (intBits_le_64 (by omega) (by omega))

theorem bind56 (pm a b : Value) : bindArgs (mkFd 7 55 pm) ⟨[a, b], []⟩ = pure [(("heap" : Str), a), (("pos" : Str), b)] := by rfl
noncomputable def upBody : List Stmt := match (fnBody 7).getD 4 (.Pass ⟨0, 0, 0, 0⟩) with
  | .While _ body .. => body
  | _ => []
theorem siftup_turn {w : World} {A : Around} {s : Shared} {g : Heap} {L H : Addr} {cmp : Addr → Addr → Bool} {S : Addr → Prop} {xs' : List Addr} {n p : Nat} {cI : Int} {t3 t4 te : Tok} {m : Str → Option Value} {pm : Value} {v2 v4 : Option Value} {X : Nat × List Addr}
    {Q : Flow → Shared → Prop} {E : Value → Shared → Prop} (R : Room A 500 1000) (hC : CmpOK w g cmp S) (F : Fh g L H s.heap m xs') (hp' : p < xs'.length) (hlen' : xs'.length = n) (hlen : n ≤ 1000) (hS : ∀ x ∈ xs', S x)
    (hsu : (if 2 * p + 2 < n ∧ cmp (xs'.getD (2 * p + 1) 0) (xs'.getD (2 * p + 2) 0) = false then su cmp n (2 * p + 2) (xs'.set p (xs'.getD (2 * p + 2) 0)) else su cmp n (2 * p + 1) (xs'.set p (xs'.getD (2 * p + 1) 0))) = X) (hc : 2 * p + 1 < n)
    (m1 : m "heap" = some (.ref H)) (m2 : m "startpos" = v2) (m3 : m "pos" = some (.int (p : Nat) t3)) (m4 : m "newitem" = v4) (hcI : cI = 2 * (p : Int) + 1) (m5 : m "childpos" = some (.int cI t4)) (m6 : m "endpos" = some (.int n te))
    (h : ∀ c h' t' m' t3 t4, p < c → c < xs'.length → su cmp n c (xs'.set p (xs'.getD c 0)) = X → Fh g L H h' m' (xs'.set p (xs'.getD c 0)) → m' "heap" = some (.ref H) → m' "startpos" = v2 → m' "pos" = some (.int (c : Nat) t3) → m' "newitem" = v4 → (∃ cI : Int, cI = 2 * (c : Int) + 1 ∧ m' "childpos" = some (.int cI t4)) → (∃ te, m' "endpos" = some (.int n te)) → Q .next { s with heap := h', toks := t' }) :
    wpAny (model PySem.Challenge.pw_mg0026_01 w) A (execs upBody (callEnv (mkFd 7 55 pm) L 56)) Q E s := by
  refine wpAny_execs_cons (wpAny_Assign_Name (wpAny_BinOp ?_))
  refine ldc rfl rfl F.ns m5 ?_
  refine wpAny_Constant_int ?_
  refine add_int ?_
  refine wpAny_storeName_local rfl F.ns (fun h5 hn5 hs5 => ?_)
  have F5 := F.st hn5 hs5
  refine wpAny_execs_cons (wpAny_mono (Q := fun f s'' => f = .next ∧ ∃ c h' t' m t4 te, s'' = { s with heap := h', toks := t' } ∧ Fh g L H h' m xs' ∧ c < xs'.length ∧ p < c ∧ su cmp n c (xs'.set p (xs'.getD c 0)) = X ∧
      m "heap" = some (.ref H) ∧ m "startpos" = v2 ∧ m "pos" = some (.int (p : Nat) t3) ∧ m "newitem" = v4 ∧ (∃ cI : Int, cI = (c : Int) ∧ m "childpos" = some (.int cI t4)) ∧ m "endpos" = some (.int n te)) ?_ ?_ (fun _ _ x => x))
  · refine wpAny_If (isTrue_and (wpAny_isTrue_Compare1 ?_))
    refine ldc rfl rfl F5.ns rfl ?_
    refine ldc rfl rfl F5.ns m6 ?_
    refine lt_int ?_
    refine wpAny_truthy_bool ?_
    by_cases hr : 2 * p + 2 < n
    · rw [if_pos (by simp; omega)]
      refine isTrue_and (isTrue_not (wpAny_isTrue_Compare1 (Subscript_ ?_)))
      refine ldc rfl rfl F5.ns m1 ?_
      refine ldc rfl rfl F5.ns m5 ?_
      refine item_listL (l := xs'.map Value.ref) F5.lst.isList (by omega) (by omega) (getD_refI (2 * p + 1) (by omega) (by omega)) ?_
      refine Subscript_ ?_
      refine ldc rfl rfl F5.ns m1 ?_
      refine ldc rfl rfl F5.ns rfl ?_
      refine item_listL (l := xs'.map Value.ref) F5.lst.isList (by omega) (by omega) (getD_refI (2 * p + 2) (by omega) (by omega)) ?_
      refine hC _ _ _ _ _ _ F5.keep R (hS _ (getD_mem (by omega))) (hS _ (getD_mem (by omega))) (fun h6 t6 k6 => ?_)
      have F6 := F5.ext k6
      refine wpAny_truthy_bool ?_
      cases hcm : cmp (xs'.getD (2 * p + 1) 0) (xs'.getD (2 * p + 2) 0) with
      | true =>
        rw [if_neg (by simp)]
        rw [if_neg (fun z => by rw [hcm] at z; cases z.2)] at hsu
        rw [if_neg (by simp)]
        refine wpAny_execs_nil ?_
        exact ⟨rfl, 2 * p + 1, h6, _, _, _, _, rfl, F6, by omega, by omega, hsu, m1, m2, m3, m4, ⟨cI, by omega, m5⟩, m6⟩
      | false =>
        rw [if_pos (by simp)]
        rw [if_pos ⟨hr, hcm⟩] at hsu
        refine isTrue_and_nil ?_
        rw [if_pos rfl]
        refine wpAny_execs_cons (wpAny_Assign_Name ?_)
        refine ldc rfl rfl F6.ns rfl ?_
        refine wpAny_storeName_local rfl F6.ns (fun h7 hn7 hs7 => ?_)
        have F7 := F6.st hn7 hs7
        refine wpAny_execs_nil ?_
        exact ⟨rfl, 2 * p + 2, h7, _, _, _, _, rfl, F7, by omega, by omega, hsu, m1, m2, m3, m4, ⟨cI + 1, by omega, rfl⟩, m6⟩
    · rw [if_neg (by simp; omega)]
      rw [if_neg (fun z => hr z.1)] at hsu
      rw [if_neg (by simp)]
      refine wpAny_execs_nil ?_
      exact ⟨rfl, 2 * p + 1, h5, _, _, _, _, rfl, F5, by omega, by omega, hsu, m1, m2, m3, m4, ⟨cI, by omega, m5⟩, m6⟩
  · rintro f s'' ⟨rfl, c, h6, t6, m', t7, te', rfl, F6, hc6, hpc, hsu6, n1, n2, n3, n4, ⟨dI, hdI, n5⟩, n6⟩
    refine wpAny_execs_cons (wpAny_Assign_Subscript (Subscript_ ?_))
    refine ldc rfl rfl F6.ns n1 ?_
    refine ldc rfl rfl F6.ns n5 ?_
    refine item_listL (l := xs'.map Value.ref) F6.lst.isList (by omega) (by omega) (getD_refI c (by omega) hdI) ?_
    refine ldc rfl rfl F6.ns n1 ?_
    refine ldc rfl rfl F6.ns n3 ?_
    refine setL F6.lst (by omega) (by omega) (by rw [refs_size]; omega) (fun h7 hl7 hs7 => ?_)
    rw [refs_set] at hl7
    have F7 := F6.set hl7 hs7
    refine wpAny_execs_cons (wpAny_Assign_Name ?_)
    refine ldc rfl rfl F7.ns n5 ?_
    subst hdI
    refine wpAny_storeName_local rfl F7.ns (fun h8 hn8 hs8 => ?_)
    have F8 := F7.st hn8 hs8
    refine wpAny_execs_cons (wpAny_Assign_Name (wpAny_BinOp (wpAny_BinOp ?_)))
    refine wpAny_Constant_int ?_
    refine ldc rfl rfl F8.ns rfl ?_
    refine mul_int ?_ (mulOk (by omega) (by omega))
    refine wpAny_Constant_int ?_
    refine add_int ?_
    refine wpAny_storeName_local rfl F8.ns (fun h9 hn9 hs9 => ?_)
    have F9 := F8.st hn9 hs9
    refine wpAny_execs_nil ?_
    exact h c h9 _ _ _ _ hpc hc6 hsu6 F9 n1 n2 rfl n4 ⟨_, rfl, rfl⟩ ⟨_, n6⟩
theorem siftup_spec {w : World} {A : Around} {s : Shared} {g : Heap} {H : Addr} {cmp : Addr → Addr → Bool} {S : Addr → Prop} {xs : List Addr} {pos : Nat} {t2 : Tok}
    {Q : Value → Shared → Prop} {E : Value → Shared → Prop} (B : Base g) (R : Room A 390 400) (hg : StIn g s.heap) (gH : g.get? H = none) (hl : LOf s.heap H (refs xs)) (hC : CmpOK w g cmp S)
    (hxs : ∀ x ∈ xs, S x) (hp : pos < xs.length) (hlen : xs.length ≤ 1000)
    (h : ∀ h' t', StIn g h' → LOf h' H (refs (siftup cmp pos xs)) → Q .none { s with heap := h', toks := t' }) :
    wpAny (model PySem.Challenge.pw_mg0026_01 w) A (call (.ref 56) [.ref H, .int pos t2]) Q E s := by
  refine callFn (n := 7) (cd := 55) (B.f56.keeps hg) (B.lim.keeps hg) R (by omega) (bind56 · _ _) (by decide) rfl (fun _ => ⟨rfl, rfl, rfl, rfl⟩) ⟨rfl, rfl, rfl⟩ ?_
  intro pm h₀ L hL hns hk hLn R' E'
  have F0 := Fh.enter hg gH hl hns hk hLn
  refine wpAny_execs_cons (wpAny_Assign_Name (callB1 (id := "len") (fun Q hQ => ldB B F0.keep (fun _ x => by simp only [globsAre] at x; simp [x]) (fun _ x => by simp only [bltsAre] at x; simp [x]) hQ) ?_))
  refine ldc rfl rfl F0.ns rfl ?_
  refine len_list F0.lst.isList (by rw [refs_size]; omega) ?_
  rw [refs_size]
  refine wpAny_storeName_local rfl F0.ns (fun h1 hn1 hs1 => ?_)
  have F1 := F0.st hn1 hs1
  refine wpAny_execs_cons (wpAny_Assign_Name ?_)
  refine ldc rfl rfl F1.ns rfl ?_
  refine wpAny_storeName_local rfl F1.ns (fun h2 hn2 hs2 => ?_)
  have F2 := F1.st hn2 hs2
  refine wpAny_execs_cons (wpAny_Assign_Name (Subscript_ ?_))
  refine ldc rfl rfl F2.ns rfl ?_
  refine ldc rfl rfl F2.ns rfl ?_
  refine item_listL (l := xs.map Value.ref) F2.lst.isList (by omega) (by omega) (getD_ref hp) ?_
  refine wpAny_storeName_local rfl F2.ns (fun h3 hn3 hs3 => ?_)
  have F3 := F2.st hn3 hs3
  refine wpAny_execs_cons (wpAny_Assign_Name (wpAny_BinOp (wpAny_BinOp ?_)))
  refine wpAny_Constant_int ?_
  refine ldc rfl rfl F3.ns rfl ?_
  refine mul_int ?_ (mulOk (by omega) (by omega))
  refine wpAny_Constant_int ?_
  refine add_int ?_
  refine wpAny_storeName_local rfl F3.ns (fun h4 hn4 hs4 => ?_)
  have F4 := F3.st hn4 hs4
  refine wpAny_execs_cons (wpAny_While ?_)
  generalize hnew : xs.getD pos 0 = new at *
  have hSn : S new := hnew ▸ hxs _ (getD_mem hp)
  refine codeAny_whileLoop (fun n s' => ∃ p xs' h' t' m t3 t4 te, s' = { s with heap := h', toks := t' } ∧ Fh g L H h' m xs' ∧ n = xs.length - p ∧ p < xs'.length ∧ xs'.length = xs.length ∧ (∀ x ∈ xs', S x) ∧
     su cmp xs.length p xs' = su cmp xs.length pos xs ∧ m "heap" = some (.ref H) ∧ m "startpos" = some (.int pos t2) ∧ m "pos" = some (.int (p : Nat) t3) ∧ m "newitem" = some (.ref new) ∧ (∃ cI : Int, cI = 2 * (p : Int) + 1 ∧ m "childpos" = some (.int cI t4)) ∧
     m "endpos" = some (.int xs.length te)) ?_ (xs.length - pos) ?_
  · rintro n s' ⟨p, xs', h', t', m, t3, t4, te, rfl, F, rfl, hp', hlen', hS, hsu, m1, m2, m3, m4, ⟨cI, hcI, m5⟩, m6⟩
    refine wpAny_isTrue_Compare1 ?_
    refine ldc rfl rfl F.ns m5 ?_
    refine ldc rfl rfl F.ns m6 ?_
    refine lt_int ?_
    refine wpAny_truthy_bool ?_
    rw [su] at hsu
    by_cases hc : 2 * p + 1 < xs.length
    · rw [if_pos hc] at hsu
      rw [if_pos (by simp; omega)]
      refine siftup_turn (s := { s with heap := h', toks := t' }) (n := xs.length) (R'.mono (by omega) (by omega)) hC F hp' hlen' hlen hS hsu hc m1 m2 m3 m4 hcI m5 m6 (fun c h9 t9 m9 t3' t4' hpc hc6 hsu6 F9 n1 n2 n3 n4 n5 ⟨te', n6⟩ => ?_)
      exact ⟨xs.length - c, by omega, c, _, h9, t9, m9, t3', t4', te', rfl, F9, rfl, by simpa using hc6, by simpa using hlen', set_all hS (hS _ (getD_mem hc6)), hsu6, n1, n2, n3, n4, n5, n6⟩
    · rw [if_neg hc] at hsu
      rw [if_neg (by simp; omega)]
      refine wpAny_execs_nil ?_
      refine wpAny_execs_cons (wpAny_Assign_Subscript ?_)
      refine ldc rfl rfl F.ns m4 ?_
      refine ldc rfl rfl F.ns m1 ?_
      refine ldc rfl rfl F.ns m3 ?_
      refine setL F.lst (by omega) (by omega) (by rw [refs_size]; omega) (fun h7 hl7 hs7 => ?_)
      rw [refs_set] at hl7
      have F7 := F.set hl7 hs7
      refine wpAny_execs_cons (wpAny_Expr_any (callF3 (a := 49) (fun Q hQ => ldG B F7.keep (fun _ x => by simp only [globsAre] at x; simp [x]) hQ) ?_))
      refine ldc rfl rfl F7.ns m1 ?_
      refine ldc rfl rfl F7.ns m2 ?_
      refine ldc rfl rfl F7.ns m3 ?_
      refine ⟨(B.f49.keeps F7.keep).here, ?_⟩
      refine siftdown_spec (g := h7.hide H) (B.keeps (hide_st F7.keep gH)) (R'.mono (by omega) (by omega)) (hide_in _ _) (Heap.hide_self _ _) F7.lst (hC.keeps (hide_st F7.keep gH)) (set_all hS hSn) (by simpa using hp') (by simp; omega) (fun h8 t8 k8 l8 => ?_)
      refine wpAny_execs_nil ?_
      refine h h8 t8 ((hide_st F7.keep gH).trans k8) ?_
      have e : siftup cmp pos xs = sd cmp ((xs'.set p new).getD p 0) pos p (xs'.set p new) := by
        unfold siftup
        rw [← hsu, hnew]
        have : (xs'.set p new).getD p 0 = new := by simp [List.getD_eq_getElem?_getD, hp']
        rw [this]
      rw [e]
      exact l8
  · exact ⟨pos, xs, h4, _, _, t2, _, _, rfl, F4, rfl, hp, rfl, hxs, rfl, rfl, rfl, rfl, by rw [← hnew]; rfl, ⟨_, rfl, rfl⟩, rfl⟩
end Mine
end
section
open PySem PySem.W PyProof.Rows
namespace Mine
set_option maxRecDepth 100000
set_option maxHeartbeats 4000000

section
variable {prog : Program} {w : World} {A : Around} {E : Value → Shared → Prop} {s : Shared}
noncomputable def rit (x left step : Int) : Obj := { cls := .type "range_iterator", dict := none, data := .fields #[rawInt x, rawInt left, rawInt step], slots := #[] }
theorem call_range_reversed {r : Addr} {m : Int} {t u v : Tok} {Q : Value → Shared → Prop} (hr : IsRange s.heap r 0 m 1 t u v) (h0 : 0 ≤ m) (h1 : m < 100)
    (h : Q (.ref s.heap.objs.size) { s with heap := s.heap.push (rit (m - 1) m (-1)) }) : wpAny (model prog w) A (call (.builtin "range.__reversed__") [.ref r]) Q E s := by
  refine wpAny_call_entry F.slot_range_reversed ⟨_, hr, rfl⟩ F.entry_range_reversed ?_ (F.args_range_reversed_1 _)
  unfold Builtin.«range.__reversed__»
  refine wpAny_bind (wpAny_of_eq (a := Value.ref r) rfl ?_)
  unfold Builtin.Range.rangeFields
  refine wpAny_bind (wpAny_bind (wpAny_field hr rfl rfl ?_))
  refine wpAny_bind (wpAny_of_eq (a := some (0 : Int)) rfl ?_)
  refine wpAny_bind (wpAny_field hr rfl rfl ?_)
  refine wpAny_bind (wpAny_of_eq (a := some m) rfl ?_)
  refine wpAny_bind (wpAny_field hr rfl rfl ?_)
  refine wpAny_bind (wpAny_of_eq (a := some (1 : Int)) rfl ?_)
  refine wpAny_pure ?_
  have hs : Builtin.Range.rangeSize 0 m 1 = m := by
    unfold Builtin.Range.rangeSize
    rw [if_pos (by decide)]
    split <;> omega
  have hsm : (Builtin.Range.rangeFitsLong 0 && Builtin.Range.rangeFitsLong m && Builtin.Range.rangeFitsLong 1 && Builtin.Range.rangeFitsLong (-1) && Builtin.Range.rangeFitsLong (0 - 1) && Builtin.Range.rangeFitsLong m) = true := by
    simp only [Builtin.Range.rangeFitsLong, Bool.and_eq_true, decide_eq_true_eq]
    omega
  simp only [hs, hsm]
  simp only [Bool.not_true, Bool.false_eq_true, if_false, if_true]
  refine wpAny_bind ?_
  simp only [newFields]
  refine wpAny_newObj_type ?_ (by size_fits)
  refine wpAny_pure ⟨_, rfl, ?_⟩
  have e : (0 : Int) + (m - 1) * 1 = m - 1 := by omega
  rw [e]
  exact h

theorem sub_ri_reversed : isSubtype (.type "range_iterator") (.type "reversed") = pure false := by rw [isSubtype_type]; kernel_rfl
theorem new_range_reversed {r : Addr} {m : Int} {t u v : Tok} {Q₁ : Value → Shared → Prop} (hr : IsRange s.heap r 0 m 1 t u v) (h0 : 0 ≤ m) (h1 : m < 100)
    (h : Q₁ (.ref s.heap.objs.size) { s with heap := s.heap.push (rit (m - 1) m (-1)) }) :
    codeAny (model prog w) A (.call (.builtin "reversed.__new__") ⟨[.type "reversed", .ref r], []⟩) (wants Q₁ E) s := by
  refine codeAny_of_tree ?_
  show wpAny _ A.in1 (do checkBuiltinCall "reversed.__new__" ⟨[.type "reversed", .ref r], []⟩; again (.builtin "reversed.__new__" ⟨[.type "reversed", .ref r], []⟩)) _ _ s
  refine wpAny_bind (wpAny_of_eq (F.newCall_reversed_1 _) (wpAny_pure ⟨plainId_quiet F.plain_reversed_new _, codeAny_builtin F.entry_reversed_new ?_⟩))
  rw [Around.under_plainId F.plain_reversed_new _]
  unfold Builtin.«reversed.__new__»
  refine wpAny_bind (wpAny_of_eq (newClass_reversed _) ?_)
  refine wpAny_bind (wpAny_of_eq (a := ()) (by kernel_rfl) ?_)
  refine wpAny_bind (wpAny_of_eq (a := ()) (by kernel_rfl) ?_)
  refine wpAny_bind (wpAny_specialOf (T := "range") ⟨_, hr, rfl⟩ F.slot_range_reversed.lookup ?_)
  refine wpAny_bind (wpAny_of_eq (F.slot_range_reversed.bind _) ?_)
  show wpAny _ _ (if (Value.builtin "range.__reversed__" == Value.none) = true then _ else _) _ _ _
  rw [if_neg (show ¬ ((Value.builtin "range.__reversed__" == Value.none) = true) from Bool.false_ne_true)]
  refine wpAny_bind (wpAny_rule ?_)
  refine wpAny_bind (m := runValue (.call (.builtin "range.__reversed__") ⟨[.ref r], []⟩)) (show wpAny _ _ (call (.builtin "range.__reversed__") [.ref r]) _ _ _ from call_range_reversed hr h0 h1 ?_)
  first
  | exact wpAny_pure h
  | exact wpAny_bind (wpAny_pure (wpAny_pure h))
theorem call_reversed_range {r : Addr} {m : Int} {t u v : Tok} {Q : Value → Shared → Prop} (hr : IsRange s.heap r 0 m 1 t u v) (h0 : 0 ≤ m) (h1 : m < 100)
    (h : Q (.ref s.heap.objs.size) { s with heap := s.heap.push (rit (m - 1) m (-1)) }) : wpAny (model prog w) A (call (.type "reversed") [.ref r]) Q E s := by
  refine callType_other (U := "range_iterator") (Q₁ := fun obj s₁ => obj = .ref s.heap.objs.size ∧ s₁ = { s with heap := s.heap.push (rit (m - 1) m (-1)) }) (by decide +kernel) F.create_reversed ⟨_, _, F.mro_reversed⟩ F.made_reversed sub_ri_reversed (F.typeCall_reversed_1 _) (new_range_reversed hr h0 h1 ⟨rfl, rfl⟩) ?_
  rintro obj s₁ ⟨rfl, rfl⟩
  exact ⟨⟨_, Heap.get?_push_size _ rfl, rfl⟩, h⟩

theorem entry_ri_iter : entryFor table "range_iterator.__iter__" = some Builtin.«dict_keyiterator.__iter__» :=
  entryFor_alias (id' := "dict_keyiterator.__iter__") (by kernel_rfl) (by first | rfl | decide +kernel | (unfold String.splitOn; simp +decide [String.splitOnAux])) (by decide +kernel) (by kernel_rfl)
theorem pyIter_rit {it : Addr} {x left step : Int} {Q : Value → Shared → Prop} (hit : s.heap.get? it = some (rit x left step)) (h : Q (.ref it) s) : wpAny (model prog w) A (pyIter (.ref it)) Q E s := by
  have hT : s.TypeIs (.ref it) "range_iterator" := ⟨_, hit, rfl⟩
  refine wpAny_pyIter_slot hT F.slot_range_iterator_iter (wpAny_call_entry F.slot_range_iterator_iter hT entry_ri_iter ?_ (F.args_range_iterator_iter_1 _))
  show wpAny _ _ (ret (.ref it)) _ _ s
  exact wpAny_pure ⟨_, rfl, "range_iterator", _, hT, F.slot_range_iterator_next.lookup, h⟩
end

section
variable {prog : Program} {w : World} {A : Around} {E : Value → Shared → Prop} {s : Shared}
theorem size_none (h : Heap) : h.get? h.objs.size = none := by
  cases e : h.get? h.objs.size with
  | none => rfl
  | some o => exact absurd (Heap.lt_size e) (Nat.lt_irrefl _)
theorem rangeCall {n : Int} {t : Tok} {Q : Value → Shared → Prop} (h : ∀ r h' t' u v, StIn s.heap h' → s.heap.get? r = none → IsRange h' r 0 n 1 u t v → Q (.ref r) { s with heap := h', toks := t' }) :
    wpAny (model prog w) A (call (.type "range") [.int n t]) Q E s :=
  call_range_1 (h _ _ _ _ _ (StIn.push (StIn.refl _) _) (size_none _) (Heap.get?_push_size _ rfl))
theorem revCall {r : Addr} {m : Int} {t u v : Tok} {Q : Value → Shared → Prop} (hr : IsRange s.heap r 0 m 1 t u v) (h0 : 0 ≤ m) (h1 : m < 100)
    (h : ∀ it h', StIn s.heap h' → s.heap.get? it = none → h'.get? it = some (rit (m - 1) m (-1)) → Q (.ref it) { s with heap := h' }) : wpAny (model prog w) A (call (.type "reversed") [.ref r]) Q E s :=
  call_reversed_range hr h0 h1 (h _ _ (StIn.push (StIn.refl _) _) (size_none _) (Heap.get?_push_size _ rfl))
end

noncomputable def hfy (cmp : Addr → Addr → Bool) : Nat → List Addr → List Addr
  | 0, xs => xs
  | i + 1, xs => hfy cmp i (siftup cmp i xs)
theorem sd_length (cmp : Addr → Addr → Bool) (new : Addr) (start pos : Nat) (xs : List Addr) : (sd cmp new start pos xs).length = xs.length := by
  induction pos using Nat.strongRecOn generalizing xs with
  | ind pos ih =>
    rw [sd]
    split
    · split
      · rw [ih _ (by omega)]; simp
      · simp
    · simp
theorem sd_mem {cmp : Addr → Addr → Bool} {new : Addr} {start : Nat} {S : Addr → Prop} (hn : S new) (pos : Nat) (xs : List Addr) (h : ∀ x ∈ xs, S x) (hp : pos < xs.length) : ∀ x ∈ sd cmp new start pos xs, S x := by
  induction pos using Nat.strongRecOn generalizing xs with
  | ind pos ih =>
    rw [sd]
    split
    · split
      · exact ih _ (by omega) _ (set_all h (h _ (getD_mem (by omega)))) (by simp; omega)
      · exact set_all h hn
    · exact set_all h hn
theorem su_spec {cmp : Addr → Addr → Bool} {S : Addr → Prop} (n : Nat) (k : Nat) : ∀ (pos : Nat) (xs : List Addr), n - pos = k → pos < n → xs.length = n → (∀ x ∈ xs, S x) →
    (su cmp n pos xs).1 < n ∧ (su cmp n pos xs).2.length = n ∧ ∀ x ∈ (su cmp n pos xs).2, S x := by
  induction k using Nat.strongRecOn with
  | ind k ih =>
    intro pos xs hk hp hl h
    rw [su]
    split
    · split
      · exact ih (n - (2 * pos + 2)) (by omega) _ _ rfl (by omega) (by simpa using hl) (set_all h (h _ (getD_mem (by omega))))
      · exact ih (n - (2 * pos + 1)) (by omega) _ _ rfl (by omega) (by simpa using hl) (set_all h (h _ (getD_mem (by omega))))
    · exact ⟨hp, hl, h⟩
theorem siftup_length {cmp : Addr → Addr → Bool} {pos : Nat} {xs : List Addr} (hp : pos < xs.length) : (siftup cmp pos xs).length = xs.length := by
  unfold siftup
  rw [sd_length]
  simpa using (su_spec (cmp := cmp) (S := fun _ => True) xs.length _ pos xs rfl hp rfl (fun _ _ => trivial)).2.1
theorem siftup_mem {cmp : Addr → Addr → Bool} {pos : Nat} {xs : List Addr} {S : Addr → Prop} (hp : pos < xs.length) (h : ∀ x ∈ xs, S x) : ∀ x ∈ siftup cmp pos xs, S x := by
  unfold siftup
  have z := su_spec (cmp := cmp) (S := S) xs.length _ pos xs rfl hp rfl h
  exact sd_mem (h _ (getD_mem hp)) _ _ (set_all z.2.2 (h _ (getD_mem hp))) (by simp [z.2.1, z.1])

theorem bind42 (pm a : Value) : bindArgs (mkFd 5 41 pm) ⟨[a], []⟩ = pure [(("x" : Str), a)] := by rfl
theorem heapify_spec {w : World} {A : Around} {s : Shared} {g : Heap} {H : Addr} {cmp : Addr → Addr → Bool} {S : Addr → Prop} {xs : List Addr}
    {Q : Value → Shared → Prop} {E : Value → Shared → Prop} (B : Base g) (R : Room A 380 390) (hg : StIn g s.heap) (gH : g.get? H = none) (hl : LOf s.heap H (refs xs)) (hC : CmpOK w g cmp S)
    (hxs : ∀ x ∈ xs, S x) (hlen : xs.length ≤ 100)
    (h : ∀ h' t', StIn g h' → LOf h' H (refs (hfy cmp (xs.length / 2) xs)) → Q .none { s with heap := h', toks := t' }) :
    wpAny (model PySem.Challenge.pw_mg0026_01 w) A (call (.ref 42) [.ref H]) Q E s := by
  refine callFn (n := 5) (cd := 41) (B.f42.keeps hg) (B.lim.keeps hg) R (by omega) (bind42 · _) (by decide) rfl (fun _ => ⟨rfl, rfl, rfl, rfl⟩) ⟨rfl, rfl, rfl⟩ ?_
  intro pm h₀ L hL hns hk hLn R' E'
  have F0 := Fh.enter hg gH hl hns hk hLn
  refine wpAny_execs_cons (wpAny_Assign_Name (callB1 (id := "len") (fun Q hQ => ldB B F0.keep (fun _ x => by simp only [globsAre] at x; simp [x]) (fun _ x => by simp only [bltsAre] at x; simp [x]) hQ) ?_))
  refine ldc rfl rfl F0.ns rfl ?_
  refine len_list F0.lst.isList (by rw [refs_size]; omega) ?_
  rw [refs_size]
  refine wpAny_storeName_local rfl F0.ns (fun h1 hn1 hs1 => ?_)
  have F1 := F0.st hn1 hs1
  refine wpAny_execs_cons (wpAny_For ?_)
  refine callT1 (T := "reversed") (fun Q hQ => ldB B F1.keep (fun _ x => by simp only [globsAre] at x; simp [x]) (fun _ x => by simp only [bltsAre] at x; simp [x]) hQ) ?_
  refine callT1 (T := "range") (fun Q hQ => ldB B F1.keep (fun _ x => by simp only [globsAre] at x; simp [x]) (fun _ x => by simp only [bltsAre] at x; simp [x]) hQ) ?_
  refine wpAny_BinOp ?_
  refine ldc rfl rfl F1.ns rfl ?_
  refine wpAny_Constant_int ?_
  refine floordiv_int (by decide) ?_ (Or.inl (PyProof.noPylong_small (by omega)))
  have e2 : Int.fdiv (xs.length : Int) 2 = ((xs.length / 2 : Nat) : Int) := by rw [Int.fdiv_eq_ediv_of_nonneg _ (by omega)]; omega
  rw [e2]
  generalize hm : xs.length / 2 = m at *
  refine rangeCall (fun r h2 t2 u v k2 hr2 hr => ?_)
  have F2 := F1.ext k2
  refine revCall hr (by omega) (by omega) (fun it h3 k3 hit3 hit => ?_)
  have F3 := F2.ext k3
  refine pyIter_rit hit ?_
  have hitL : it ≠ L := fun e => by
    obtain ⟨o, _, _, ho, _⟩ := F2.ns
    rw [e, ho] at hit3; cases hit3
  have hitH : it ≠ H := fun e => by
    obtain ⟨o, ho⟩ := F2.lst.get
    rw [e, ho] at hit3; cases hit3
  have hitg : g.get? it = none := none_of F2.keep hit3
  refine codeAny_forLoop (fun n s' => ∃ i xs' h' t' m', s' = { s with heap := h', toks := t' } ∧ Fh g L H h' m' xs' ∧ n = i ∧ i ≤ m ∧ h'.get? it = some (rit ((i : Int) - 1) i (-1)) ∧ xs'.length = xs.length ∧ (∀ x ∈ xs', S x) ∧
     hfy cmp i xs' = hfy cmp m xs ∧ m' "x" = some (.ref H)) ?_ m ?_
  · rintro n s' ⟨i, xs', h', t', m', rfl, F, rfl, hi, hit', hlen', hS, hh, m1⟩
    cases n with
    | zero =>
      refine wpAny_pyNext_range_end R'.handled hit' (by omega) (fun h5 k5 => ?_)
      refine wpAny_execs_nil ?_
      refine wpAny_execs_nil ?_
      refine h h5 _ (F.keep.extBut hitg k5) ?_
      rw [← hh]
      exact F.lst.ext k5 hitH.symm
    | succ i =>
      refine wpAny_pyNext_range_item hit' (by omega) (fun h5 hit5 k5 => ?_)
      have F5 : Fh g L H h5 m' xs' := ⟨F.ns.sameBut k5 hitL.symm, F.lst.same k5 hitH.symm, F.keep.same hitg k5, F.gL, F.gH, F.ne⟩
      refine wpAny_assign_Name (wpAny_storeName_local rfl F5.ns (fun h6 hn6 hs6 => ?_))
      have F6 := F5.st hn6 hs6
      have hit6 := (hs6.2 it hitL).trans hit5
      have hi' : i < xs'.length := by omega
      refine wpAny_execs_cons (wpAny_Expr_any (callF2 (a := 56) (fun Q hQ => ldG B F6.keep (fun _ x => by simp only [globsAre] at x; simp [x]) hQ) ?_))
      refine ldc rfl rfl F6.ns m1 ?_
      refine ldc rfl rfl F6.ns rfl ?_
      refine ⟨(B.f56.keeps F6.keep).here, ?_⟩
      have ei : (((i + 1 : Nat) : Int) - 1) = (i : Int) := by omega
      rw [ei]
      refine siftup_spec (g := h6.hide H) (B.keeps (hide_st F6.keep gH)) (R'.mono (by omega) (by omega)) (hide_in _ _) (Heap.hide_self _ _) F6.lst (hC.keeps (hide_st F6.keep gH)) hS hi' (by omega) (fun h8 t8 k8 l8 => ?_)
      refine wpAny_execs_nil ?_
      have F8 := F6.back k8 l8
      refine ⟨i, by omega, i, _, h8, t8, _, rfl, F8, rfl, by omega, ?_, by rw [siftup_length hi', hlen'], siftup_mem hi' hS, hh, m1⟩
      refine k8 _ _ ((Heap.hide_ne _ hitH).trans ?_)
      rw [hit6]
      have a1 : (((i + 1 : Nat) : Int) - 1) + -1 = (i : Int) - 1 := by omega
      show some (rit _ _ _) = _
      rw [a1, ei]
  · exact ⟨m, xs, h3, _, _, rfl, F3, rfl, Nat.le_refl _, hit, rfl, hxs, rfl, rfl⟩
end Mine
end
section
open PySem PySem.W PyProof.Rows
namespace Mine
set_option maxRecDepth 100000
set_option maxHeartbeats 4000000

section
variable {prog : Program} {w : World} {A : Around} {E : Value → Shared → Prop} {s : Shared} {env : Env}
theorem getMeth {M : Model} {H : Addr} {items : Array Value} {name : Str} {id : String} {pl : Sem Bool} {Q : Value × List Value → Shared → Prop} (hl : LOf s.heap H items) (slot : Slot "list" name id) (hty : typeOf (.builtin id) = pure (.type "method_descriptor"))
    (h : Q (.builtin id, [.ref H]) s) : wpAny M A (getMethod (.ref H) name pl) Q E s := by
  obtain ⟨n, e⟩ := hl
  exact getMethod_builtin ⟨_, e, rfl⟩ PySem.F.plainAttrs_list slot hty (fun a q => by cases q; exact ⟨_, e, rfl⟩) h
theorem meth0 {o : Expr} {name : Str} {apos pos : Pos} {id : String} {Q : Value → Shared → Prop} (slot : Slot "list" name id) (hty : typeOf (.builtin id) = pure (.type "method_descriptor"))
    (h : wpAny (model prog w) A (eval o env) (fun ov s1 => ∃ H items, ov = .ref H ∧ LOf s1.heap H items ∧ wpAny (model prog w) A (call (.builtin id) [.ref H]) Q E s1) E s)
    (he : ∃ pl, eval (.Call (.Attribute o name apos) [] [] pos) env = (do
      let ov ← eval o env
      standAt apos.atName
      let (f, first) ← holding [ov] (getMethod ov name pl)
      callWith pos f first (backTo pos (starEach [] env)) (backToKw pos (keywordEach [] env))) := by exact ⟨_, rfl⟩) :
    wpAny (model prog w) A (eval (.Call (.Attribute o name apos) [] [] pos) env) Q E s := by
  obtain ⟨pl, he⟩ := he
  refine methodCall_KW (pl := pl) (wpAny_mono h (fun ov s1 h1 => ?_) fun _ _ x => x) he
  obtain ⟨H, items, rfl, hl, h1⟩ := h1
  refine getMeth hl slot hty ?_
  exact Calls.callWith_builtin rfl (evalArgs_kw_nil rfl (wpAny_evalAll_nil h1))
theorem meth1 {o e1 : Expr} {name : Str} {apos pos : Pos} {id : String} {Q : Value → Shared → Prop} (slot : Slot "list" name id) (hty : typeOf (.builtin id) = pure (.type "method_descriptor"))
    (h : wpAny (model prog w) A (eval o env) (fun ov s1 => ∃ H items, ov = .ref H ∧ LOf s1.heap H items ∧ wpAny (model prog w) A (eval e1 env) (fun v s2 => wpAny (model prog w) A (call (.builtin id) [.ref H, v]) Q E s2) E s1) E s)
    (he : ∃ pl, eval (.Call (.Attribute o name apos) [e1] [] pos) env = (do
      let ov ← eval o env
      standAt apos.atName
      let (f, first) ← holding [ov] (getMethod ov name pl)
      callWith pos f first (backTo pos (starEach [e1] env)) (backToKw pos (keywordEach [] env))) := by exact ⟨_, rfl⟩)
    (hs : starEach [e1] env = [(false, eval e1 env)] := by rfl) :
    wpAny (model prog w) A (eval (.Call (.Attribute o name apos) [e1] [] pos) env) Q E s := by
  obtain ⟨pl, he⟩ := he
  refine methodCall_KW (pl := pl) (wpAny_mono h (fun ov s1 h1 => ?_) fun _ _ x => x) he
  obtain ⟨H, items, rfl, hl, h1⟩ := h1
  refine getMeth hl slot hty ?_
  rw [hs]
  exact Calls.callWith_builtin rfl (Calls.evalArgs_plain (Calls.spliced_cons (wpAny_mono h1 (fun _ _ h2 => Calls.spliced_nil h2) fun _ _ x => x)))
theorem popL {H : Addr} {xs : List Addr} {y : Addr} {Q : Value → Shared → Prop} (hl : LOf s.heap H (refs (xs ++ [y]))) (hlen : xs.length ≤ 1000)
    (hQ : ∀ h', LOf h' H (refs xs) → Heap.SameBut H s.heap h' → Q (.ref y) { s with heap := h' }) : wpAny (model prog w) A (call (.builtin "list.pop") [.ref H]) Q E s := by
  obtain ⟨n, e⟩ := hl
  refine Copied.pop_at e (y := .ref y) (by simp [refs]) (fun h' hs hg => hQ h' ⟨n + 1, ?_⟩ hs) (by simp [refs, sizeLine]; omega)
  have e2 : (refs (xs ++ [y])).pop = refs xs := by simp [refs]
  rw [e2] at hg
  exact hg
theorem appL {H : Addr} {items : Array Value} {x : Value} {Q : Value → Shared → Prop} (hl : LOf s.heap H items) (hlen : items.size ≤ 100000)
    (hQ : ∀ h', LOf h' H (items.push x) → Heap.SameBut H s.heap h' → Q .none { s with heap := h' }) : wpAny (model prog w) A (call (.builtin "list.append") [.ref H, x]) Q E s := by
  obtain ⟨n, e⟩ := hl
  exact append_at e (fun h' hs hg => hQ h' ⟨_, hg⟩ hs) (by simp [sizeLine]; omega)
end

noncomputable def popR (cmp : Addr → Addr → Bool) (xs : List Addr) : List Addr := if xs.length ≤ 1 then [] else siftup cmp 0 (xs.dropLast.set 0 (xs.getLastD 0))
noncomputable def repR (cmp : Addr → Addr → Bool) (y : Addr) (xs : List Addr) : List Addr := siftup cmp 0 (xs.set 0 y)

theorem bind35 (pm a b : Value) : bindArgs (mkFd 4 34 pm) ⟨[a, b], []⟩ = pure [(("heap" : Str), a), (("item" : Str), b)] := by rfl
theorem heapreplace_spec {w : World} {A : Around} {s : Shared} {g : Heap} {H y : Addr} {cmp : Addr → Addr → Bool} {S : Addr → Prop} {xs : List Addr}
    {Q : Value → Shared → Prop} {E : Value → Shared → Prop} (B : Base g) (R : Room A 380 390) (hg : StIn g s.heap) (gH : g.get? H = none) (hl : LOf s.heap H (refs xs)) (hC : CmpOK w g cmp S)
    (hxs : ∀ x ∈ xs, S x) (hy : S y) (hlen : xs.length ≤ 100) (hne : 0 < xs.length)
    (h : ∀ h' t', StIn g h' → LOf h' H (refs (repR cmp y xs)) → Q (.ref (xs.getD 0 0)) { s with heap := h', toks := t' }) :
    wpAny (model PySem.Challenge.pw_mg0026_01 w) A (call (.ref 35) [.ref H, .ref y]) Q E s := by
  refine callFn (n := 4) (cd := 34) (B.f35.keeps hg) (B.lim.keeps hg) R (by omega) (bind35 · _ _) (by decide) rfl (fun _ => ⟨rfl, rfl, rfl, rfl⟩) ⟨rfl, rfl, rfl⟩ ?_
  intro pm h₀ L hL hns hk hLn R' E'
  have F0 := Fh.enter hg gH hl hns hk hLn
  refine wpAny_execs_cons (wpAny_Assign_Name (Subscript_ ?_))
  refine ldc rfl rfl F0.ns rfl ?_
  refine wpAny_Constant_int ?_
  refine item_listL (l := xs.map Value.ref) F0.lst.isList (by omega) (by omega) (getD_refI 0 hne rfl) ?_
  refine wpAny_storeName_local rfl F0.ns (fun h1 hn1 hs1 => ?_)
  have F1 := F0.st hn1 hs1
  refine wpAny_execs_cons (wpAny_Assign_Subscript ?_)
  refine ldc rfl rfl F1.ns rfl ?_
  refine ldc rfl rfl F1.ns rfl ?_
  refine wpAny_Constant_int ?_
  refine setL F1.lst (by omega) (by omega) (by rw [refs_size]; omega) (fun h2 hl2 hs2 => ?_)
  have F2 := F1.set (xs' := xs.set 0 y) (by rw [← refs_set]; exact hl2) hs2
  refine wpAny_execs_cons (wpAny_Expr_any (callF2 (a := 56) (fun Q hQ => ldG B F2.keep (fun _ x => by simp only [globsAre] at x; simp [x]) hQ) ?_))
  refine ldc rfl rfl F2.ns rfl ?_
  refine wpAny_Constant_int ?_
  refine ⟨(B.f56.keeps F2.keep).here, ?_⟩
  refine siftup_spec (pos := 0) (g := h2.hide H) (B.keeps (hide_st F2.keep gH)) (R'.mono (by omega) (by omega)) (hide_in _ _) (Heap.hide_self _ _) F2.lst (hC.keeps (hide_st F2.keep gH)) (set_all hxs hy) (by simpa using hne) (by simp; omega) (fun h8 t8 k8 l8 => ?_)
  have F8 := F2.back k8 l8
  refine wpAny_execs_cons (wpAny_Return_some ?_)
  refine ldc rfl rfl F8.ns rfl ?_
  exact h h8 t8 F8.keep l8

theorem bind28 (pm a : Value) : bindArgs (mkFd 3 27 pm) ⟨[a], []⟩ = pure [(("heap" : Str), a)] := by rfl
theorem heappop_spec {w : World} {A : Around} {s : Shared} {g : Heap} {H : Addr} {cmp : Addr → Addr → Bool} {S : Addr → Prop} {xs : List Addr}
    {Q : Value → Shared → Prop} {E : Value → Shared → Prop} (B : Base g) (R : Room A 380 390) (hg : StIn g s.heap) (gH : g.get? H = none) (hl : LOf s.heap H (refs xs)) (hC : CmpOK w g cmp S)
    (hxs : ∀ x ∈ xs, S x) (hlen : xs.length ≤ 100) (hne : 0 < xs.length)
    (h : ∀ h' t', StIn g h' → LOf h' H (refs (popR cmp xs)) → Q (.ref (xs.getD 0 0)) { s with heap := h', toks := t' }) :
    wpAny (model PySem.Challenge.pw_mg0026_01 w) A (call (.ref 28) [.ref H]) Q E s := by
  refine callFn (n := 3) (cd := 27) (B.f28.keeps hg) (B.lim.keeps hg) R (by omega) (bind28 · _) (by decide) rfl (fun _ => ⟨rfl, rfl, rfl, rfl⟩) ⟨rfl, rfl, rfl⟩ ?_
  intro pm h₀ L hL hns hk hLn R' E'
  have hxe : xs = xs.dropLast ++ [xs.getLastD 0] := by
    cases xs with
    | nil => simp at hne
    | cons a r =>
      have e := List.dropLast_concat_getLast (l := a :: r) (by simp)
      rw [List.getLastD_eq_getLast?, List.getLast?_eq_some_getLast (by simp)]
      exact e.symm
  have F0 := Fh.enter hg gH hl hns hk hLn
  generalize hys : xs.dropLast = ys at *
  generalize hla : xs.getLastD 0 = la at *
  have hl0 : xs.length = ys.length + 1 := by rw [hxe]; simp
  have hSla : S la := hxs _ (by rw [hxe]; simp)
  have hSys : ∀ x ∈ ys, S x := fun x hx => hxs x (by rw [hxe]; simp [hx])
  refine wpAny_execs_cons (wpAny_Assign_Name (meth0 PySem.F.slot_list_pop PySem.F.type_list_pop ?_))
  refine ldc rfl rfl F0.ns rfl ?_
  refine ⟨H, _, rfl, F0.lst, ?_⟩
  refine popL (xs := ys) (y := la) (by rw [← hxe]; exact F0.lst) (by omega) (fun h1 hl1 hs1 => ?_)
  have F1 := F0.set hl1 hs1
  refine wpAny_storeName_local rfl F1.ns (fun h2 hn2 hs2 => ?_)
  have F2 := F1.st hn2 hs2
  refine wpAny_execs_cons (wpAny_If (isTrue_plain ?_))
  refine ldc rfl rfl F2.ns rfl ?_
  refine wpAny_truthy_list F2.lst.isList (by rw [refs_size]; omega) ?_
  by_cases hy : ys = []
  · subst hy
    rw [if_neg (by simp [refs])]
    refine wpAny_execs_nil ?_
    refine wpAny_execs_cons (wpAny_Return_some ?_)
    refine ldc rfl rfl F2.ns rfl ?_
    have e : popR cmp xs = [] := by unfold popR; rw [if_pos (by rw [hl0]; simp)]
    have e0 : xs.getD 0 0 = la := by rw [hxe]; rfl
    rw [e, e0] at h
    exact h h2 _ F2.keep F2.lst
  · have hyl : 0 < ys.length := List.length_pos_iff.mpr hy
    rw [if_pos (by simp [refs, hy])]
    refine wpAny_execs_cons (wpAny_Assign_Name (Subscript_ ?_))
    refine ldc rfl rfl F2.ns rfl ?_
    refine wpAny_Constant_int ?_
    refine item_listL (l := ys.map Value.ref) F2.lst.isList (by omega) (by omega) (getD_refI 0 hyl rfl) ?_
    refine wpAny_storeName_local rfl F2.ns (fun h3 hn3 hs3 => ?_)
    have F3 := F2.st hn3 hs3
    refine wpAny_execs_cons (wpAny_Assign_Subscript ?_)
    refine ldc rfl rfl F3.ns rfl ?_
    refine ldc rfl rfl F3.ns rfl ?_
    refine wpAny_Constant_int ?_
    refine setL F3.lst (by omega) (by omega) (by rw [refs_size]; omega) (fun h4 hl4 hs4 => ?_)
    have F4 := F3.set (xs' := ys.set 0 la) (by rw [← refs_set]; exact hl4) hs4
    refine wpAny_execs_cons (wpAny_Expr_any (callF2 (a := 56) (fun Q hQ => ldG B F4.keep (fun _ x => by simp only [globsAre] at x; simp [x]) hQ) ?_))
    refine ldc rfl rfl F4.ns rfl ?_
    refine wpAny_Constant_int ?_
    refine ⟨(B.f56.keeps F4.keep).here, ?_⟩
    refine siftup_spec (pos := 0) (g := h4.hide H) (B.keeps (hide_st F4.keep gH)) (R'.mono (by omega) (by omega)) (hide_in _ _) (Heap.hide_self _ _) F4.lst (hC.keeps (hide_st F4.keep gH)) (set_all hSys hSla) (by simpa using hyl) (by simp; omega) (fun h8 t8 k8 l8 => ?_)
    have F8 := F4.back k8 l8
    refine wpAny_execs_cons (wpAny_Return_some ?_)
    refine ldc rfl rfl F8.ns rfl ?_
    have e0 : xs.getD 0 0 = ys.getD 0 0 := by
      rw [hxe]; cases ys with
      | nil => exact absurd rfl hy
      | cons a r => rfl
    have e1 : popR cmp xs = siftup cmp 0 (ys.set 0 la) := by
      unfold popR
      rw [if_neg (by omega), hys, hla]
    rw [← e0]
    exact h h8 t8 F8.keep (by rw [e1]; exact l8)
end Mine
end
section
open PySem PySem.W PyProof.Rows
namespace Mine
set_option maxRecDepth 100000
set_option maxHeartbeats 4000000
section
variable {prog : Program} {w : World} {A : Around} {E : Value → Shared → Prop} {s : Shared}
/-- the end of a list's walk, with the heap's size -/
theorem listEnd {it l : Addr} {i : Nat} {items : Array Value} {Q : Option Value → Shared → Prop} (hh : A.handled = none)
    (hit : s.heap.IsListIter it l i) (hl : s.heap.IsList l items) (hx : items[i]? = none)
    (hQ : ∀ h', Heap.ExtBut it s.heap h' → h'.objs.size = s.heap.objs.size + 2 → Q none { s with heap := h' }) : wpAny (model prog w) A (pyNext (.ref it)) Q E s := by
  obtain ⟨o, ho, hc, hd⟩ := id hit
  obtain ⟨ol, hol, _, nl, hdl⟩ := hl
  unfold pyNext
  refine wpAny_bind (wpAny_attempt (wpAny_callSpecial?_slot (name := Str.ofString "__next__") hit.typeIs slot_listiter_next
    (wpAny_call_entry slot_listiter_next hit.typeIs entry_listiter_next ?_ (args_listiter_next _))))
  show wpAny _ _ (field (.ref it) 0 >>= _) _ _ s
  refine wpAny_bind (wpAny_field ho hd (x := .ref l) rfl ?_)
  show wpAny _ _ (if (Value.ref l == Value.none) = true then _ else _) _ _ s
  rw [if_neg (show ¬ ((Value.ref l == Value.none) = true) from Bool.false_ne_true)]
  show wpAny _ _ (field (.ref it) 1 >>= _) _ _ s
  refine wpAny_bind (wpAny_field ho hd (x := .int i 0) rfl ?_)
  show wpAny _ _ (seqItems? (.ref l) >>= _) _ _ s
  refine wpAny_bind (wpAny_seqItems hol hdl ?_)
  simp only [Int.toNat_natCast, hx]
  refine wpAny_bind (wpAny_rule (wpAny_bind (wpAny_setField ho hd (by simp) ?_)))
  show wpAny _ _ (newExc (.type "StopIteration") [] >>= _) _ _ _
  refine wpAny_bind ?_
  simp only [newExc, newTuple]
  refine wpAny_bind (wpAny_newObj_type ?_ (by size_fits))
  refine wpAny_bind (m := firstArgMember _ _) (wpAny_of_eq (a := Value.none) (by first | rfl | (simp only [firstArgMember]; rfl)) ?_)
  refine wpAny_newObj_type ?_ (by size_fits)
  simp only [raiseNew]
  refine wpAny_bind (wpAny_handled ?_)
  rw [show A.in1.handled = none from hh]
  refine wpAny_bind (wpAny_pure (wpAny_throw ?_))
  refine wpAny_bind (wpAny_isInstance (T := "StopIteration") (b := true) ⟨_, Heap.get?_push_size _ rfl, rfl⟩ isSubtype_stop ?_)
  refine wpAny_pure (hQ _ (((Heap.SameBut.update ..).extBut.push _).push _) ?_)
  rw [Heap.size_push, Heap.size_push, (Heap.SameBut.update ..).1]
theorem rangeEnd {it : Addr} {x left step : Int} {Q : Option Value → Shared → Prop} (hh : A.handled = none) (hit : IsRangeIter s.heap it x left step) (hleft : left ≤ 0)
    (hQ : ∀ h', Heap.ExtBut it s.heap h' → h'.objs.size = s.heap.objs.size + 2 → Q none { s with heap := h' }) : wpAny (model prog w) A (pyNext (.ref it)) Q E s := by
  have hT : s.TypeIs (.ref it) "range_iterator" := ⟨_, hit, rfl⟩
  unfold pyNext
  refine wpAny_bind (wpAny_attempt (wpAny_callSpecial?_slot (name := Str.ofString "__next__") hT F.slot_range_iterator_next
    (wpAny_call_entry F.slot_range_iterator_next hT F.entry_range_iterator_next ?_ (F.args_range_iterator_next_1 _))))
  show wpAny _ _ (field (.ref it) 0 >>= _) _ _ s
  refine wpAny_bind (wpAny_field hit rfl (x := rawInt x) rfl ?_)
  show wpAny _ _ (field (.ref it) 1 >>= _) _ _ s
  refine wpAny_bind (wpAny_field hit rfl (x := rawInt left) rfl ?_)
  show wpAny _ _ (field (.ref it) 2 >>= _) _ _ s
  refine wpAny_bind (wpAny_field hit rfl (x := rawInt step) rfl ?_)
  show wpAny _ _ (if left ≤ 0 then _ else _) _ _ s
  rw [if_pos hleft]
  refine wpAny_bind (wpAny_rule ?_)
  refine wpAny_bind ?_
  show wpAny _ _ (newExc (.type "StopIteration") [] >>= _) _ _ _
  refine wpAny_bind ?_
  simp only [newExc, newTuple]
  refine wpAny_bind (wpAny_newObj_type ?_ (by size_fits))
  refine wpAny_bind (m := firstArgMember _ _) (wpAny_of_eq (a := Value.none) (by first | rfl | (simp only [firstArgMember]; rfl)) ?_)
  refine wpAny_newObj_type ?_ (by size_fits)
  simp only [raiseNew]
  refine wpAny_bind (wpAny_handled ?_)
  first | rw [show A.in1.handled = none from hh] | rw [hh]
  refine wpAny_bind (wpAny_pure (wpAny_throw ?_))
  refine wpAny_bind (wpAny_isInstance (T := "StopIteration") (b := true) ⟨_, Heap.get?_push_size _ rfl, rfl⟩ isSubtype_stop ?_)
  refine wpAny_pure (hQ _ (((Heap.ExtBut.refl it s.heap).push _).push _) ?_)
  rw [Heap.size_push, Heap.size_push]
/-- the sum of a list of ints, with the heap's size -/
theorem sumLoop {R : Result → Shared → Prop} {I S l : Addr} {items : Array Value} (val : Nat → Int) (hh : A.handled = none) (hIl : l ≠ I) (hSI : S ≠ I) (hSl : l ≠ S)
    (hval : ∀ i (v : Value), items[i]? = some v → ∃ t, v = .int (val i) t) (hfit : ∀ j, j < items.size → InLong (val j) ∧ InLong (preSum val (j + 1))) :
    ∀ (k i : Nat) (s : Shared) (tA : Tok) (c : Nat), items.size - i = k → i ≤ items.size → s.heap.IsListIter I l i → s.heap.IsList l items → s.heap.get? S = some { cls := .type "list", dict := none, data := .seq #[.int (preSum val i) tA] c, slots := #[] } →
    (∀ h' tk t', (∀ b o, b ≠ I → b ≠ S → s.heap.get? b = some o → h'.get? b = some o) → h'.objs.size = s.heap.objs.size + 2 → R (.ok (.ret (.int (preSum val items.size) t'))) { s with heap := h', toks := tk }) →
    codeAny (model prog w) A (.builtin "sum.loop" ⟨[.ref I, .ref S, rawInt 0, rawInt 0], []⟩) R s := by
  intro k
  induction k with
  | zero =>
    intro i s tA c hk hi hit hl hS hR
    have hin : i = items.size := by omega
    subst hin
    refine codeAny_builtin F.entry_sum_loop ?_
    rw [Around.under_plainId F.plain_sum_loop _]
    show wpAny _ A.in1 (seqItems? (.ref S) >>= _) _ _ s
    refine wpAny_bind (wpAny_seqItems hS rfl ?_)
    show wpAny _ A.in1 (tryCatch (pyNext (.ref I)) _ >>= _) _ _ s
    refine wpAny_bind (wpAny_tryCatch (listEnd hh hit hl (by simp) fun h' he hsz => ?_))
    exact wpAny_pure (hR h' s.toks tA (fun b o hb _ e => he b o hb e) hsz)
  | succ k ih =>
    intro i s tA c hk hi hit hl hS hR
    have hlt : i < items.size := by omega
    refine codeAny_builtin F.entry_sum_loop ?_
    rw [Around.under_plainId F.plain_sum_loop _]
    show wpAny _ A.in1 (seqItems? (.ref S) >>= _) _ _ s
    refine wpAny_bind (wpAny_seqItems hS rfl ?_)
    show wpAny _ A.in1 (tryCatch (pyNext (.ref I)) _ >>= _) _ _ s
    obtain ⟨t, ht⟩ := hval i items[i] (by simp [hlt])
    refine wpAny_bind (wpAny_tryCatch (wpAny_pyNext_list_item hit hl (x := .int (val i) t) (by simp [hlt, ht]) fun h' hit' hs' => ?_))
    have hS' : h'.get? S = _ := (hs'.2 S hSI).trans hS
    obtain ⟨⟨f1, f2⟩, f3, f4⟩ := hfit i hlt
    have hc : ((decide (-(2 ^ 63) ≤ val i) && decide (val i < 2 ^ 63)) && (decide (-(2 ^ 63) ≤ preSum val i + val i) && decide (preSum val i + val i < 2 ^ 63))) = true := by
      simp only [preSum] at f3 f4
      simp only [Bool.and_eq_true, decide_eq_true_eq]
      exact ⟨⟨f1, f2⟩, f3, f4⟩
    show wpAny _ A.in1 (if (_ : Bool) = true then (mkInt (preSum val i + val i) >>= _) else _) _ _ _
    split
    · refine wpAny_bind (wpAny_mkInt ?_)
      show wpAny _ A.in1 (updateSeq S (fun _ => #[.int (preSum val i + val i) s.toks]) >>= _) _ _ _
      refine wpAny_bind ?_
      refine wpAny_updateSeq hS' rfl (wpAny_pure ⟨plainId_quiet F.plain_sum_loop _, ih (i + 1) _ s.toks _ (by omega) hlt ?_ ?_ (Heap.get?_update_self _ hS' rfl) fun h'' tk'' t'' hk'' hsz => ?_⟩)
      · obtain ⟨o, ho, r⟩ := hit'
        exact ⟨o, (Heap.get?_update_other _ _ hSI).trans ho, r⟩
      · obtain ⟨o, ho, r⟩ := hl
        exact ⟨o, (Heap.get?_update_other _ _ (Ne.symm hSl)).trans ((hs'.2 l hIl).trans ho), r⟩
      · refine hR h'' tk'' t'' (fun b o hbw hbS e => hk'' b o hbw hbS ((Heap.get?_update_other _ _ (Ne.symm hbS)).trans ((hs'.2 b hbw).trans e))) ?_
        rw [hsz, (Heap.SameBut.update ..).1, hs'.1]
    · rename_i hneg
      exact absurd hc hneg
theorem sumList {l : Addr} {items : Array Value} {Q : Value → Shared → Prop} (val : Nat → Int) (hh : A.handled = none) (hl : s.heap.IsList l items)
    (hval : ∀ i (v : Value), items[i]? = some v → ∃ t, v = .int (val i) t) (hfit : ∀ j, j < items.size → InLong (val j) ∧ InLong (preSum val (j + 1)))
    (hQ : ∀ h' tk t', StIn s.heap h' → h'.objs.size = s.heap.objs.size + 4 → Q (.int (preSum val items.size) t') { s with heap := h', toks := tk }) :
    wpAny (model prog w) A (call (.builtin "sum") [.ref l]) Q E s := by
  refine call_function_tree F.kind_sum F.plain_sum F.entry_sum (F.args_sum1 _) ?_
  unfold Builtin.«sum»
  simp only [List.length_cons, List.length_nil]
  rw [if_neg (by decide)]
  refine wpAny_bind (wpAny_of_eq (show Builtin.Builtins.bindParams "sum" ["start"] 0 { } = pure [none] from rfl) ?_)
  refine wpAny_bind (wpAny_pyIter_list hl ?_)
  refine wpAny_bind (wpAny_mkInt ?_)
  refine wpAny_bind (wpAny_pure ?_)
  simp only [List.forIn_cons, List.forIn_nil]
  refine wpAny_bind (wpAny_bind (wpAny_bind (wpAny_isInstance (T := "int") (b := false) (typeIs_int _ _ _) PySem.sub_int_str ?_)))
  simp only [Bool.false_eq_true, if_false]
  refine wpAny_pure (wpAny_bind (wpAny_bind (wpAny_isInstance (T := "int") (b := false) (typeIs_int _ _ _) PySem.sub_int_bytes ?_)))
  simp only [Bool.false_eq_true, if_false]
  refine wpAny_pure (wpAny_bind (wpAny_bind (wpAny_isInstance (T := "int") (b := false) (typeIs_int _ _ _) PySem.sub_int_bytearray ?_)))
  simp only [Bool.false_eq_true, if_false]
  refine wpAny_pure (wpAny_pure ?_)
  refine wpAny_bind (wpAny_newObj_type ?_)
  have hlt : l < s.heap.objs.size := let ⟨_, e, _⟩ := hl; Heap.lt_size e
  refine wpAny_pure ⟨plainId_quiet F.plain_sum_loop _, sumLoop val hh (Nat.ne_of_lt hlt) ?_ ?_ hval hfit items.size 0 _ _ 0 rfl (Nat.zero_le _) ?_ ((hl.push _).push _) (Heap.get?_push_size _ rfl) fun h' tk t' hk hsz => ?_⟩
  · rw [Heap.size_push]; exact Nat.succ_ne_self _
  · rw [Heap.size_push]; exact Nat.ne_of_lt (Nat.lt_succ_of_lt hlt)
  · exact ⟨_, Heap.get?_push_of_some _ (Heap.get?_push_size _ rfl), rfl, rfl⟩
  · refine hQ h' tk t' (fun b o e => ?_) ?_
    · have this : b < s.heap.objs.size := Heap.lt_size e
      refine hk b o (Nat.ne_of_lt this) ?_ (Heap.get?_push_of_some _ (Heap.get?_push_of_some _ e))
      rw [Heap.size_push]; exact Nat.ne_of_lt (Nat.lt_succ_of_lt this)
    · rw [hsz, Heap.size_push, Heap.size_push]
end
end Mine
end
section
open PySem PySem.W PyProof.Rows
namespace Mine
set_option maxRecDepth 100000
set_option maxHeartbeats 4000000
section
variable {prog : Program} {w : World} {A : Around} {E : Value → Shared → Prop} {s : Shared} {R : Result → Shared → Prop} {I S T : Addr}
theorem tupEnd {it t : Addr} {i : Nat} {items : Array Value} {Q : Option Value → Shared → Prop} (hh : A.handled = none)
    (hit : s.heap.IsTupleIter it t i) (ht : s.heap.IsTuple t items) (hx : items[i]? = none)
    (hQ : ∀ h', Heap.ExtBut it s.heap h' → h'.objs.size = s.heap.objs.size + 2 → Q none { s with heap := h' }) : wpAny (model prog w) A (pyNext (.ref it)) Q E s := by
  obtain ⟨o, ho, hc, hd⟩ := id hit
  obtain ⟨ol, hol, _, nl, hdl⟩ := ht
  unfold pyNext
  refine wpAny_bind (wpAny_attempt (wpAny_callSpecial?_slot (name := Str.ofString "__next__") hit.typeIs F.slot_tuple_iterator_next
    (wpAny_call_entry F.slot_tuple_iterator_next hit.typeIs F.entry_tuple_iterator_next ?_ (F.args_tuple_iterator_next_1 _))))
  show wpAny _ _ (field (.ref it) 0 >>= _) _ _ s
  refine wpAny_bind (wpAny_field ho hd (x := .ref t) rfl ?_)
  show wpAny _ _ (if (Value.ref t == Value.none) = true then _ else _) _ _ s
  rw [if_neg (show ¬ ((Value.ref t == Value.none) = true) from Bool.false_ne_true)]
  show wpAny _ _ (field (.ref it) 1 >>= _) _ _ s
  refine wpAny_bind (wpAny_field ho hd (x := .int i 0) rfl ?_)
  show wpAny _ _ (seqItems? (.ref t) >>= _) _ _ s
  refine wpAny_bind (wpAny_seqItems hol hdl ?_)
  simp only [Int.toNat_natCast, hx]
  refine wpAny_bind (wpAny_rule (wpAny_bind (wpAny_setField ho hd (by simp) ?_)))
  show wpAny _ _ (newExc (.type "StopIteration") [] >>= _) _ _ _
  refine wpAny_bind ?_
  simp only [newExc, newTuple]
  refine wpAny_bind (wpAny_newObj_type ?_ (by size_fits))
  refine wpAny_bind (m := firstArgMember _ _) (wpAny_of_eq (a := Value.none) (by first | rfl | (simp only [firstArgMember]; rfl)) ?_)
  refine wpAny_newObj_type ?_ (by size_fits)
  simp only [raiseNew]
  refine wpAny_bind (wpAny_handled ?_)
  first | rw [show A.in1.handled = none from hh] | rw [hh]
  refine wpAny_bind (wpAny_pure (wpAny_throw ?_))
  refine wpAny_bind (wpAny_isInstance (T := "StopIteration") (b := true) ⟨_, Heap.get?_push_size _ rfl, rfl⟩ isSubtype_stop ?_)
  refine wpAny_pure (hQ _ (((Heap.SameBut.update ..).extBut.push _).push _) ?_)
  rw [Heap.size_push, Heap.size_push, (Heap.SameBut.update ..).1]

theorem updS {M : Model} {Q : Unit → Shared → Prop} {xs : Array Value} {c : Nat} {f : Array Value → Array Value} (hS : s.heap.get? S = some { cls := .type "list", dict := none, data := .seq xs c, slots := #[] })
    (hz : xs.size ≤ sizeLine) (hz' : (f xs).size ≤ sizeLine + 1)
    (h : ∀ h' c', h'.get? S = some { cls := .type "list", dict := none, data := .seq (f xs) c', slots := #[] } → Heap.SameBut S s.heap h' → Q () { s with heap := h' }) :
    wpAny M A (updateSeq S f) Q E s :=
  wpAny_updateSeq hS rfl (h _ _ (Heap.get?_update_self _ hS rfl) (Heap.SameBut.update ..)) hz hz'
theorem minLast {i c : Nat} {items : Array Value} {vb : Value} (hh : A.handled = none) (hit : s.heap.IsTupleIter I T i) (ht : s.heap.IsTuple T items) (hx : items[i]? = none) (hSI : S ≠ I)
    (hS : s.heap.get? S = some { cls := .type "list", dict := none, data := .seq #[vb, vb] c, slots := #[] })
    (hR : ∀ h', (∀ b o, b ≠ I → b ≠ S → s.heap.get? b = some o → h'.get? b = some o) → h'.objs.size = s.heap.objs.size + 2 → R (.ok (.ret vb)) { s with heap := h' }) :
    codeAny (model prog w) A (.builtin "min.loop" ⟨[.ref I, .none, .ref S], []⟩) R s := by
  refine codeAny_builtin F.entry_min_loop ?_
  rw [Around.under_plainId F.plain_min_loop _]
  show wpAny _ A.in1 (seqItems? (.ref S) >>= _) _ _ s
  refine wpAny_bind (wpAny_seqItems hS rfl ?_)
  show wpAny _ A.in1 (tryCatch (pyNext (.ref I)) _ >>= _) _ _ s
  refine wpAny_bind (wpAny_tryCatch (tupEnd hh hit ht hx fun h' he hsz => ?_))
  have hS' := he S _ hSI hS
  show wpAny _ A.in1 (updateSeq S (fun _ => #[]) >>= _) _ _ _
  refine wpAny_bind ?_
  refine wpAny_updateSeq hS' rfl (wpAny_bind (wpAny_letGo (wpAny_pure ?_)))
  refine hR _ (fun b o hbw hbS e => (Heap.get?_update_other _ _ (Ne.symm hbS)).trans (he b o hbw e)) ?_
  rw [(Heap.SameBut.update ..).1, hsz]
theorem minTwo {a b : Int} {t u : Tok} {Q : Value → Shared → Prop} (hh : A.handled = none)
    (hQ : ∀ h' tk, StIn s.heap h' → h'.objs.size = s.heap.objs.size + 5 → Q (.int (if b < a then b else a) tk) { s with heap := h' }) :
    wpAny (model prog w) A (call (.builtin "min") [.int a t, .int b u]) Q E s := by
  have hname : (toString "min" ++ toString ".loop" : String) = "min.loop" := by decide
  refine call_function_tree F.kind_min F.plain_min F.entry_min (F.args_min2 _ _) ?_
  show wpAny _ A.in1 (Builtin.Builtins.bindParams "min" ["key", "default"] 0 ⟨[], []⟩ >>= _) _ _ s
  refine wpAny_bind (wpAny_of_eq (show Builtin.Builtins.bindParams "min" ["key", "default"] 0 ⟨[], []⟩ = pure [none, none] from rfl) ?_)
  show wpAny _ A.in1 (newTuple [.int a t, .int b u] >>= _) _ _ s
  refine wpAny_bind (wpAny_newObj_type ?_)
  have hT0 : (s.heap.push { cls := .type "tuple", data := .seq #[.int a t, .int b u] }).IsTuple s.heap.objs.size #[.int a t, .int b u] := ⟨_, Heap.get?_push_size _ rfl, rfl, 0, rfl⟩
  refine wpAny_bind (wpAny_pyIter_tuple hT0 ?_)
  refine wpAny_bind (wpAny_newObj_type ?_)
  rw [hname]
  generalize e1 : (s.heap.push { cls := .type "tuple", data := .seq #[.int a t, .int b u] }) = h1 at *
  have s1 : h1.objs.size = s.heap.objs.size + 1 := by rw [← e1, Heap.size_push]
  have k1 : StIn s.heap h1 := by rw [← e1]; exact (StIn.refl _).push _
  have hI2 : (h1.push { cls := .type "tuple_iterator", data := .fields #[.ref s.heap.objs.size, .int 0 0] }).IsTupleIter h1.objs.size s.heap.objs.size 0 := ⟨_, Heap.get?_push_size _ rfl, rfl, rfl⟩
  have hT2 := hT0.push { cls := .type "tuple_iterator", data := .fields #[.ref s.heap.objs.size, .int 0 0] }
  generalize e2 : (h1.push { cls := .type "tuple_iterator", data := .fields #[.ref s.heap.objs.size, .int 0 0] }) = h2 at *
  have s2 : h2.objs.size = h1.objs.size + 1 := by rw [← e2, Heap.size_push]
  have k2 : StIn h1 h2 := by rw [← e2]; exact (StIn.refl _).push _
  have hI3 : (h2.push { cls := .type "list", data := .seq #[] }).IsTupleIter h1.objs.size s.heap.objs.size 0 := let ⟨o, x, y⟩ := hI2; ⟨o, Heap.get?_push_of_some _ x, y⟩
  have hT3 := hT2.push { cls := .type "list", data := .seq #[] }
  have hS3 : (h2.push { cls := .type "list", data := .seq #[] }).get? h2.objs.size = some { cls := .type "list", dict := none, data := .seq #[] 0, slots := #[] } := Heap.get?_push_size _ rfl
  generalize e3 : (h2.push { cls := .type "list", data := .seq #[] }) = h3 at *
  have s3 : h3.objs.size = h2.objs.size + 1 := by rw [← e3, Heap.size_push]
  have k3 : StIn h2 h3 := by rw [← e3]; exact (StIn.refl _).push _
  have k03 : StIn s.heap h3 := (k1.trans k2).trans k3
  refine wpAny_pure ⟨plainId_quiet F.plain_min_loop _, ?_⟩
  show codeAny _ _ (.builtin "min.loop" ⟨[.ref h1.objs.size, .none, .ref h2.objs.size], []⟩) _ _
  generalize eI : h1.objs.size = I at *
  generalize eS : h2.objs.size = S at *
  generalize eT : s.heap.objs.size = T at *
  have nSI : S ≠ I := by omega
  have nTI : T ≠ I := by omega
  have nTS : T ≠ S := by omega
  have keep : ∀ x o, s.heap.get? x = some o → x ≠ I ∧ x ≠ S := fun x o e => by
    have z : x < s.heap.objs.size := Heap.lt_size e
    rw [eT] at z
    exact ⟨Nat.ne_of_lt (Nat.lt_trans z (by omega)), Nat.ne_of_lt (Nat.lt_trans z (by omega))⟩
  refine codeAny_builtin F.entry_min_loop ?_
  rw [Around.under_plainId F.plain_min_loop _]
  show wpAny _ A.in1 (seqItems? (.ref S) >>= _) _ _ _
  refine wpAny_bind (wpAny_seqItems hS3 rfl ?_)
  show wpAny _ A.in1 (tryCatch (pyNext (.ref I)) _ >>= _) _ _ _
  refine wpAny_bind (wpAny_tryCatch (wpAny_pyNext_tuple_item hI3 hT3 (x := .int a t) rfl fun h4 hI4 w4 => ?_))
  have hS4 := (w4.2 S nSI).trans hS3
  have hT4 : h4.IsTuple T #[.int a t, .int b u] := let ⟨o, x, y⟩ := hT3; ⟨o, (w4.2 T nTI).trans x, y⟩
  have k04 : StIn s.heap h4 := fun x o e => (w4.2 x (keep x o e).1).trans (k03 x o e)
  have s4 : h4.objs.size = h3.objs.size := w4.1
  show wpAny _ A.in1 (updateSeq S (fun _ => #[.int a t, .int a t]) >>= _) _ _ _
  refine wpAny_bind ?_
  refine updS hS4 (by decide) (by simp [sizeLine]) fun h5 c5 hS5 w5 => ?_
  have hI5 : h5.IsTupleIter I T 1 := let ⟨o, x, y⟩ := hI4; ⟨o, (w5.2 I (Ne.symm nSI)).trans x, y⟩
  have hT5 : h5.IsTuple T #[.int a t, .int b u] := let ⟨o, x, y⟩ := hT4; ⟨o, (w5.2 T nTS).trans x, y⟩
  have k05 : StIn s.heap h5 := fun x o e => (w5.2 x (keep x o e).2).trans (k04 x o e)
  have s5 : h5.objs.size = h4.objs.size := w5.1
  rw [hname]
  refine wpAny_pure ⟨plainId_quiet F.plain_min_loop _, ?_⟩
  refine codeAny_builtin F.entry_min_loop ?_
  rw [Around.under_plainId F.plain_min_loop _]
  show wpAny _ A.in1 (seqItems? (.ref S) >>= _) _ _ _
  refine wpAny_bind (wpAny_seqItems hS5 rfl ?_)
  show wpAny _ A.in1 (tryCatch (pyNext (.ref I)) _ >>= _) _ _ _
  refine wpAny_bind (wpAny_tryCatch (wpAny_pyNext_tuple_item hI5 hT5 (x := .int b u) rfl fun h6 hI6 w6 => ?_))
  have hS6 := (w6.2 S nSI).trans hS5
  have hT6 : h6.IsTuple T #[.int a t, .int b u] := let ⟨o, x, y⟩ := hT5; ⟨o, (w6.2 T nTI).trans x, y⟩
  have k06 : StIn s.heap h6 := fun x o e => (w6.2 x (keep x o e).1).trans (k05 x o e)
  have s6 : h6.objs.size = h5.objs.size := w6.1
  show wpAny _ A.in1 (tryCatch (holding [.int b u, .int b u] (richCompare .Lt (.int b u) (.int a t) >>= _)) _ >>= _) _ _ _
  refine wpAny_bind (wpAny_tryCatch (wpAny_holding (wpAny_bind (richCompare_gives (op := .Lt) (typeIs_int _ _ u) (typeIs_int _ _ t) F.slot_int_lt F.entry_int_lt (F.args_int_lt_2 _ _) (gives_int_lt _ _ u t) (fun x => nomatch x) ?_))))
  refine wpAny_bind (wpAny_holding (wpAny_truthy_bool ?_))
  refine wpAny_bind (wpAny_letGo (wpAny_pure ?_))
  by_cases hb : b < a
  · simp only [hb, decide_true, if_true]
    refine wpAny_bind ?_
    refine updS hS6 (by simp [sizeLine]) (by simp [sizeLine]) fun h7 c7 hS7 w7 => wpAny_bind (wpAny_letGo ?_)
    rw [hname]
    refine wpAny_pure ⟨plainId_quiet F.plain_min_loop _, ?_⟩
    refine minLast (i := 2) (items := #[.int a t, .int b u]) hh (let ⟨o, x, y⟩ := hI6; ⟨o, (w7.2 I (Ne.symm nSI)).trans x, y⟩) (let ⟨o, x, y⟩ := hT6; ⟨o, (w7.2 T nTS).trans x, y⟩) rfl nSI hS7 fun h8 k8 s8 => ?_
    have z := hQ h8 u (fun x o e => k8 x o (keep x o e).1 (keep x o e).2 ((w7.2 x (keep x o e).2).trans (k06 x o e))) (by rw [s8]; have z7 : h7.objs.size = h6.objs.size := w7.1; show h7.objs.size + 2 = _; omega)
    rwa [if_pos hb] at z
  · simp only [hb, decide_false, Bool.false_eq_true, if_false]
    refine wpAny_bind (wpAny_letGo ?_)
    rw [hname]
    refine wpAny_pure ⟨plainId_quiet F.plain_min_loop _, ?_⟩
    refine minLast (i := 2) (items := #[.int a t, .int b u]) hh hI6 hT6 rfl nSI hS6 fun h8 k8 s8 => ?_
    have z := hQ h8 t (fun x o e => k8 x o (keep x o e).1 (keep x o e).2 (k06 x o e)) (by rw [s8]; show h6.objs.size + 2 = _; omega)
    rwa [if_neg hb] at z
end
end Mine
end
section
open PySem PySem.W PyProof.Rows
namespace Mine
set_option maxRecDepth 100000
set_option maxHeartbeats 4000000
/-- what stands still while the objects of a list change -/
structure Fz (f h : Heap) (xs : List Addr) : Prop where
  st : StIn f h
  no : ∀ x ∈ xs, f.get? x = none
theorem Fz.same {f h h' : Heap} {xs : List Addr} {x : Addr} (F : Fz f h xs) (hx : x ∈ xs) (s : Heap.SameBut x h h') : Fz f h' xs := ⟨F.st.same (F.no x hx) s, F.no⟩
theorem Fz.ext {f h h' : Heap} {xs : List Addr} (F : Fz f h xs) (s : StIn h h') : Fz f h' xs := ⟨F.st.trans s, F.no⟩
theorem Fz.push {f h : Heap} {xs : List Addr} (F : Fz f h xs) (o : Obj) : Fz f (h.push o) xs := ⟨F.st.push o, F.no⟩
theorem Fz.extBut {f h h' : Heap} {xs : List Addr} {x : Addr} (F : Fz f h xs) (hx : x ∈ xs) (s : Heap.ExtBut x h h') : Fz f h' xs := ⟨F.st.extBut (F.no x hx) s, F.no⟩
theorem Fz.top (h : Heap) (xs : List Addr) : Fz (hideAll h xs) h xs := ⟨fun _ _ e => of_hideAll xs e, fun _ m => hideAll_none xs m⟩
theorem Fz.grow {f h : Heap} {xs : List Addr} (F : Fz f h xs) : StIn f (hideAll h xs) := fun b o e => hideAll_get xs (F.st b o e) fun m => by rw [F.no b m] at e; cases e
theorem fresh_none {h : Heap} {a : Addr} (e : h.objs.size ≤ a) : h.get? a = none := by
  cases q : h.get? a with
  | none => rfl
  | some o => exact absurd (Heap.lt_size q) (Nat.not_lt.mpr e)
theorem StIn.none {f h : Heap} {a : Addr} (s : StIn f h) (e : h.get? a = none) : f.get? a = none := by
  cases q : f.get? a with
  | none => rfl
  | some o => rw [s _ _ q] at e; cases e
theorem StIn.le {f h : Heap} {a : Addr} (s : StIn f h) (e : h.objs.size ≤ a) : f.get? a = .none := s.none (fresh_none e)

theorem callFnX {w : World} {A : Around} {s : Shared} {f n cd : Nat} {d u : Nat} {args : List Value} {Q : Value → Shared → Prop} {E : Value → Shared → Prop} {binds : List (Str × Value)}
    (X : FnAt s.heap f n cd) (lim : s.heap.NoLimit) (R : Room A d u) (hd : d < 900)
    (hbind : ∀ pm, bindArgs (mkFd n cd pm) ⟨args, []⟩ = pure binds)
    (hcell : ∀ x ∈ (fnScope n).names, x.2 ≠ .cell) (hloc : (binds.all fun x => decide ((fnScope n).names.lookup x.1 = some .local)) = true)
    (hq : ∀ pm, (mkFd n cd pm).qualname = fnNm n ∧ (mkFd n cd pm).code = .ref cd ∧ (mkFd n cd pm).body = .stmts (fnBody n) ∧ (mkFd n cd pm).scope = fnScope n)
    (hk : (fnScope n).isCoroutine = false ∧ (fnScope n).isGenerator = false ∧ (fnScope n).kind = .function)
    (h : ∀ pm h₀ L, L = s.heap.objs.size → h₀.Ns L (fun x => binds.reverse.lookup x) → StIn s.heap h₀ → h₀.objs.size = s.heap.objs.size + 1 → Room (A.deeper (callEnv (mkFd n cd pm) L f)) (d + 1) (u + 3) →
      ∀ E', wpAny (model PySem.Challenge.pw_mg0026_01 w) (A.deeper (callEnv (mkFd n cd pm) L f)) (execs (fnBody n) (callEnv (mkFd n cd pm) L f)) (fun fl s' => Q (match fl with | .ret v => v | _ => .none) s')
        E' { s with heap := h₀, toks := s.toks + binds.length }) :
    wpAny (model PySem.Challenge.pw_mg0026_01 w) A (call (.ref f) args) Q E s := by
  obtain ⟨o, pm, ho, hdt⟩ := X.obj
  refine wpAny_call (codeAny_call_function (fd := mkFd n cd pm) (body := fnBody n) ?_ ho hdt ?_ ?_ (hq pm).2.2.1 ?_ (BindsTo.of_eq (hbind pm) _ _ _ _ ?_))
  · have := R.depth; show A.depth < 1000; omega
  · rw [(hq pm).2.2.2]; exact hk.1
  · rw [(hq pm).2.2.2]; exact hk.2.1
  · rw [(hq pm).1, (hq pm).2.1]; exact X.code
  · refine wpAny_newFunctionEnv (by rw [(hq pm).2.2.2]; exact hcell) (by rw [(hq pm).2.2.2]; exact locs hloc) (fun h₀ hns₀ hsb₀ => ⟨lim.fresh _ hsb₀, codeAny_func (h pm h₀ _ rfl hns₀ (fun b o e => ?_) ?_ R.deeper _)⟩) (by rw [(hq pm).2.2.2]; exact hk.2.2)
    · exact hsb₀.extBut b o (Nat.ne_of_lt (Heap.lt_size e)) (Heap.get?_push_of_some _ e)
    · rw [hsb₀.1, Heap.size_push]

section
variable {w : World} {M : Model} {A : Around} {E : Value → Shared → Prop} {s : Shared} {env : Env} {g : Heap}
theorem newL {vs : List Value} {Q : Value → Shared → Prop} (hn : vs.length ≤ 1000) (h : ∀ h', h' = s.heap.push { cls := .type "list", data := .seq vs.toArray } → LOf h' s.heap.objs.size vs.toArray → StIn s.heap h' → h'.objs.size = s.heap.objs.size + 1 → Q (.ref s.heap.objs.size) { s with heap := h' }) :
    vs.length ≤ sizeLine ∧ Q (.ref s.heap.objs.size) { s with heap := s.heap.push { cls := .type "list", data := .seq vs.toArray } } :=
  ⟨Nat.le_trans hn (by decide), h _ rfl ⟨0, Heap.get?_push_size _ rfl⟩ ((StIn.refl _).push _) (Heap.size_push ..)⟩
theorem list0 {pos : Pos} {Q : Value → Shared → Prop} (h : ∀ h', LOf h' s.heap.objs.size #[] → StIn s.heap h' → h'.objs.size = s.heap.objs.size + 1 → Q (.ref s.heap.objs.size) { s with heap := h' }) :
    wpAny M A (eval (.List [] pos) env) Q E s := wpAny_List (Calls.spliced_nil (newL (by simp) fun h' _ => h h'))
theorem list2 {e1 e2 : Expr} {pos : Pos} {Q : Value → Shared → Prop}
    (h : wpAny M A (eval e1 env) (fun v1 s1 => wpAny M A (eval e2 env) (fun v2 s2 => ∀ h', LOf h' s2.heap.objs.size #[v1, v2] → StIn s2.heap h' → h'.objs.size = s2.heap.objs.size + 1 → Q (.ref s2.heap.objs.size) { s2 with heap := h' }) E s1) E s)
    (hs : starEach [e1, e2] env = [(false, eval e1 env), (false, eval e2 env)] := by rfl) : wpAny M A (eval (.List [e1, e2] pos) env) Q E s := by
  refine wpAny_List ?_
  rw [hs]
  exact Calls.spliced_cons (wpAny_mono h (fun v1 s1 h1 => Calls.spliced_cons (wpAny_mono h1 (fun v2 s2 h2 => Calls.spliced_nil (newL (by simp) fun h' _ => h2 h')) fun _ _ x => x)) fun _ _ x => x)
theorem list3 {e1 e2 e3 : Expr} {pos : Pos} {Q : Value → Shared → Prop}
    (h : wpAny M A (eval e1 env) (fun v1 s1 => wpAny M A (eval e2 env) (fun v2 s2 => wpAny M A (eval e3 env) (fun v3 s3 => ∀ h', LOf h' s3.heap.objs.size #[v1, v2, v3] → StIn s3.heap h' → h'.objs.size = s3.heap.objs.size + 1 → Q (.ref s3.heap.objs.size) { s3 with heap := h' }) E s2) E s1) E s)
    (hs : starEach [e1, e2, e3] env = [(false, eval e1 env), (false, eval e2 env), (false, eval e3 env)] := by rfl) : wpAny M A (eval (.List [e1, e2, e3] pos) env) Q E s := by
  refine wpAny_List ?_
  rw [hs]
  exact Calls.spliced_cons (wpAny_mono h (fun v1 s1 h1 => Calls.spliced_cons (wpAny_mono h1 (fun v2 s2 h2 => Calls.spliced_cons (wpAny_mono h2 (fun v3 s3 h3 => Calls.spliced_nil (newL (by simp) fun h' _ => h3 h')) fun _ _ x => x)) fun _ _ x => x)) fun _ _ x => x)
end

/-- a row: below, first, many -/
structure Row where
  b : Int
  f : Int
  n : Int
noncomputable def row0 : Row := ⟨1, 0, 1⟩
noncomputable def Row.OK (r : Row) : Prop := 1 ≤ r.b ∧ r.b ≤ 9 ∧ -12 ≤ r.f ∧ r.f ≤ 12 ∧ 1 ≤ r.n ∧ r.n ≤ 5
noncomputable def RowAt (h : Heap) (a : Addr) (r : Row) : Prop := ∃ t1 t2 t3, LOf h a #[.int r.b t1, .int r.f t2, .int r.n t3]
theorem RowAt.keeps {h h' : Heap} {a : Addr} {r : Row} (x : RowAt h a r) (k : StIn h h') : RowAt h' a r := let ⟨a, b, c, e⟩ := x; ⟨a, b, c, k.lof e⟩
noncomputable def RowsIn (h : Heap) (as : List Addr) (rows : List Row) : Prop := as.length = rows.length ∧ ∀ i, i < as.length → RowAt h (as.getD i 0) (rows.getD i row0)
theorem RowsIn.keeps {h h' : Heap} {as : List Addr} {rows : List Row} (x : RowsIn h as rows) (k : StIn h h') : RowsIn h' as rows := ⟨x.1, fun i hi => (x.2 i hi).keeps k⟩
theorem RowsIn.snoc {h : Heap} {as : List Addr} {rows : List Row} {a : Addr} {r : Row} (x : RowsIn h as rows) (y : RowAt h a r) : RowsIn h (as ++ [a]) (rows ++ [r]) := by
  refine ⟨by simp [x.1], fun i hi => ?_⟩
  rw [List.length_append, List.length_singleton] at hi
  by_cases q : i < as.length
  · have z := x.2 i q
    rw [List.getD_eq_getElem?_getD, List.getD_eq_getElem?_getD] at z ⊢
    rw [List.getElem?_append_left q, List.getElem?_append_left (x.1 ▸ q)]; exact z
  · have e : i = as.length := by omega
    subst e
    rw [List.getD_eq_getElem?_getD, List.getD_eq_getElem?_getD, List.getElem?_append_right (Nat.le_refl _), x.1, List.getElem?_append_right (Nat.le_refl _)]
    simpa using y
noncomputable def RowsAt (h : Heap) (a : Addr) (rows : List Row) : Prop := ∃ as, LOf h a (refs as) ∧ RowsIn h as rows
theorem RowsAt.keeps {h h' : Heap} {a : Addr} {rows : List Row} (x : RowsAt h a rows) (k : StIn h h') : RowsAt h' a rows := let ⟨as, e, r⟩ := x; ⟨as, k.lof e, r.keeps k⟩
noncomputable def RowsOK (rows : List Row) : Prop := 3 ≤ rows.length ∧ rows.length ≤ 9 ∧ ∀ r ∈ rows, r.OK
theorem RowsAt.get {h : Heap} {a : Addr} {rows : List Row} (x : RowsAt h a rows) {j : Nat} (hj : j < rows.length) : ∃ items ra, h.IsList a items ∧ items[j]? = some (.ref ra) ∧ items.size = rows.length ∧ RowAt h ra (rows.getD j row0) := by
  obtain ⟨as, l, e, r⟩ := x
  rw [← e] at hj
  exact ⟨_, as.getD j 0, l.isList, by simp [refs, List.getD_eq_getElem?_getD, hj], by simp [refs, e], r j hj⟩
theorem RowsAt.len {h : Heap} {a : Addr} {rows : List Row} (x : RowsAt h a rows) : ∃ items, h.IsList a items ∧ items.size = rows.length := by
  obtain ⟨as, l, e, r⟩ := x
  exact ⟨_, l.isList, by simp [refs, e]⟩
end Mine
end
section
open PySem PySem.W PyProof.Rows
namespace Mine
set_option maxRecDepth 100000
set_option maxHeartbeats 4000000
section
variable {prog : Program} {w : World} {A : Around} {E : Value → Shared → Prop} {s : Shared} {env : Env}
theorem rsize1 {n : Int} (h : 0 ≤ n) : Builtin.Range.rangeSize 0 n 1 = n := by
  unfold Builtin.Range.rangeSize
  rw [if_pos (by decide)]
  split <;> omega
theorem rangeIt {n : Int} {t : Tok} {Q : Value → Shared → Prop} (h0 : 0 ≤ n) (h1 : n < 1000)
    (h : ∀ it h' t', StIn s.heap h' → h'.objs.size = s.heap.objs.size + 2 → s.heap.get? it = none → IsRangeIter h' it 0 n 1 → Q (.ref it) { s with heap := h', toks := t' }) :
    wpAny (model prog w) A (call (.type "range") [.int n t]) (fun x s1 => wpAny (model prog w) A (pyIter x) Q E s1) E s := by
  refine call_range_1 (wpAny_pyIter_range (IsRange.new _ _ _ _ _ _ _) ?_ ?_)
  · exact small_one (by decide) (by decide) (by omega) (by omega)
  · rw [rsize1 h0]
    refine h _ _ _ (((StIn.refl _).push _).push _) ?_ (fresh_none ?_) (Heap.get?_push_size _ rfl)
    · rw [Heap.size_push, Heap.size_push]
    · rw [Heap.size_push]; omega
/-- a cut list -/
theorem cutL {value : Expr} {lower upper step : Option Expr} {p pos : Pos} {Q : Value → Shared → Prop}
    (h : wpAny (model prog w) A (eval value env) (fun o s1 => wpAny (model prog w) A (evalPart lower env) (fun vl s2 => wpAny (model prog w) A (evalPart upper env) (fun vu s3 => wpAny (model prog w) A (evalPart step env) (fun vk s4 =>
      ∃ l items lo hi st, o = .ref l ∧ s4.heap.IsList l items ∧ IsPart vl lo ∧ IsPart vu hi ∧ IsPart vk st ∧ st ≠ some 0 ∧ items.size ≤ 1000 ∧
      ∀ h', h'.IsList (s4.heap.objs.size + 1) (slicePick items lo hi st) → StIn s4.heap h' → h'.objs.size = s4.heap.objs.size + 2 → Q (.ref (s4.heap.objs.size + 1)) { s4 with heap := h' }) E s3) E s2) E s1) E s)
    (hs : ∀ l i, ∃ ops, subscripted (.Slice lower upper step p) false (.ref l) (.ref i) = operate ops (getItem (.ref l) (.ref i)) := by intro l i; first | exact ⟨[.ref l, .ref i], rfl⟩ | exact ⟨[.ref i, .ref l], rfl⟩)
    (ht : ∀ o r, letTemporaryGo value o r = pure () := by intro _ _; with_unfolding_all rfl) :
    wpAny (model prog w) A (eval (.Subscript value (.Slice lower upper step p) pos) env) Q E s := by
  refine Subscript_ (wpAny_mono h (fun o s1 h1 => wpAny_Slice (wpAny_mono h1 (fun vl s2 h2 => wpAny_mono h2 (fun vu s3 h3 => wpAny_mono h3 (fun vk s4 h4 => ?_) fun _ _ x => x) fun _ _ x => x) fun _ _ x => x)) fun _ _ x => x)
  obtain ⟨l, items, lo, hi, st, rfl, hl, pl, pu, pk, hst, hsz, hQ⟩ := h4
  obtain ⟨ops, hs⟩ := hs l s4.heap.objs.size
  refine subscriptTail_ops (hl.push _).typeIs slot_list_getitem.lookup ?_ hs (ht _)
  refine wpAny_getItem_list_slice (hl.push _) ⟨_, Heap.get?_push_size _ rfl, rfl, rfl⟩ pl pu pk hst ?_ (Nat.le_trans hsz (by decide))
  rw [Heap.size_push]
  have z := Heap.get?_push_size (s4.heap.push { cls := .type "slice", data := .fields #[vl, vu, vk] }) (o := { cls := .type "list", data := .seq (slicePick items lo hi st) }) rfl
  rw [Heap.size_push] at z
  exact hQ _ ⟨_, z, rfl, _, rfl⟩ (((StIn.refl _).push _).push _) (by rw [Heap.size_push, Heap.size_push])
end
noncomputable def iv : Value → Int
  | .int n _ => n
  | _ => 0
noncomputable def SmallInts (M : Int) (items : Array Value) : Prop := ∀ v ∈ items, ∃ n t, v = .int n t ∧ 0 ≤ n ∧ n < M
theorem pick_mem {items : Array Value} {lo hi st : Option Int} {v : Value} (h : v ∈ slicePick items lo hi st) : v ∈ items := by
  unfold slicePick at h
  simp only [List.mem_toArray, List.mem_filterMap] at h
  obtain ⟨i, _, e⟩ := h
  exact Array.mem_of_getElem? e
theorem preSum_le {val : Nat → Int} {n : Nat} {M : Int} (hM : 0 ≤ M) (h : ∀ j, j < n → 0 ≤ val j ∧ val j ≤ M) : ∀ j, j ≤ n → 0 ≤ preSum val j ∧ preSum val j ≤ j * M
  | 0, _ => by simp [preSum]
  | j + 1, hj => by
    have z := preSum_le hM h j (by omega)
    have y := h j hj
    have e : ((j + 1 : Nat) : Int) * M = j * M + M := by rw [Int.natCast_succ, Int.add_mul, Int.one_mul]
    rw [e]; simp only [preSum]; omega
theorem sumSmall {prog : Program} {w : World} {A : Around} {E : Value → Shared → Prop} {s : Shared} {l : Addr} {items : Array Value} {M : Int} {Q : Value → Shared → Prop} (hh : A.handled = none) (hl : s.heap.IsList l items)
    (hi : SmallInts M items) (hM : 0 ≤ M) (hM' : M ≤ 1000000) (hsz : items.size ≤ 1000)
    (hQ : ∀ h' tk t' n, StIn s.heap h' → h'.objs.size = s.heap.objs.size + 4 → 0 ≤ n → n ≤ items.size * M → n = (items.toList.map iv).sum → Q (.int n t') { s with heap := h', toks := tk }) :
    wpAny (model prog w) A (call (.builtin "sum") [.ref l]) Q E s := by
  have hv : ∀ j, j < items.size → 0 ≤ iv (items.getD j .none) ∧ iv (items.getD j .none) ≤ M := fun j hj => by
    obtain ⟨n, t, e, a, b⟩ := hi items[j] (Array.getElem_mem hj)
    have : items.getD j .none = .int n t := by simp [Array.getD, hj, e]
    rw [this]; simp only [iv]; omega
  have hp := preSum_le (n := items.size) hM hv
  refine sumList (fun j => iv (items.getD j .none)) hh hl (fun i v e => ?_) (fun j hj => ?_) (fun h' tk t' k1 k2 => hQ h' tk t' _ k1 k2 (hp _ (Nat.le_refl _)).1 (hp _ (Nat.le_refl _)).2 ?_)
  · obtain ⟨n, t, e', _⟩ := hi v (Array.mem_of_getElem? e)
    refine ⟨t, ?_⟩
    have hd : items.getD i .none = v := by rw [Array.getD_eq_getD_getElem?, e]; rfl
    rw [hd, e']; rfl
  · have a := hv j hj
    have b := hp (j + 1) hj
    have c : ((j + 1 : Nat) : Int) * M ≤ 1000 * 1000000 := Int.mul_le_mul (by omega) hM' hM (by omega)
    exact ⟨⟨by omega, by omega⟩, by omega, by omega⟩
  · have key : ∀ (l : List Value) (k : Nat), k ≤ l.length → preSum (fun j => iv (l.toArray.getD j .none)) k = ((l.take k).map iv).sum := by
      intro l k
      induction k with
      | zero => intro _; simp [preSum]
      | succ k ih =>
        intro hk
        have hlt : k < l.length := hk
        have e2 : l.take (k + 1) = l.take k ++ [l[k]] := by simp
        have e3 : l.toArray.getD k .none = l[k] := by simp [Array.getD, hlt]
        show preSum _ k + iv (l.toArray.getD k .none) = _
        rw [ih (by omega), e2, List.map_append, List.sum_append, e3]; simp
    have z := key items.toList items.size (by simp)
    rw [List.take_of_length_le (by simp)] at z
    simpa using z
theorem mkRow_ok (n : Int) : (Row.mk (1 + n.fmod 9) ((n.fdiv 9).fmod 25 - 12) (1 + (n.fdiv 225).fmod 5)).OK := by
  have a1 := Int.fmod_nonneg_of_pos n (b := 9) (by omega)
  have a2 := Int.fmod_lt_of_pos n (b := 9) (by omega)
  have b1 := Int.fmod_nonneg_of_pos (n.fdiv 9) (b := 25) (by omega)
  have b2 := Int.fmod_lt_of_pos (n.fdiv 9) (b := 25) (by omega)
  have c1 := Int.fmod_nonneg_of_pos (n.fdiv 225) (b := 5) (by omega)
  have c2 := Int.fmod_lt_of_pos (n.fdiv 225) (b := 5) (by omega)
  refine ⟨?_, ?_, ?_, ?_, ?_, ?_⟩ <;> simp only <;> omega

theorem Ns_get {h : Heap} {a : Addr} {m : Str → Option Value} (n : h.Ns a m) : ∃ o, h.get? a = some o := let ⟨o, _, _, e, _⟩ := n; ⟨o, e⟩
theorem ne_of_none {h : Heap} {a b : Addr} {o : Obj} (e : h.get? a = some o) (f : h.get? b = none) : a ≠ b := fun q => by rw [q, f] at e; cases e
theorem refs_push (as : List Addr) (a : Addr) : (refs as).push (.ref a) = refs (as ++ [a]) := by simp [refs]
theorem bind70 (pm a : Value) : bindArgs (mkFd 10 69 pm) ⟨[a], []⟩ = pure [(("numbers" : Str), a)] := by rfl
end Mine
end
section
open PySem PySem.W PyProof.Rows
namespace Mine
set_option maxRecDepth 100000
set_option maxHeartbeats 4000000

noncomputable def rowsBody : List Stmt := match (fnBody 10).getD 1 (.Pass ⟨0, 0, 0, 0⟩) with
  | .For _ _ body .. => body
  | _ => []
theorem rows_turn {w : World} {A : Around} {s : Shared} {g f : Heap} {N L RL it : Addr} {items : Array Value} {pm : Value} {as : List Addr} {rows : List Row} {m : Str → Option Value} {a ia ib : Int} {ti : Tok}
    {Q : Flow → Shared → Prop} {E : Value → Shared → Prop} (B : Base g) (hh : A.handled = none) (gf : StIn g f) (lf : f.IsList N items) (hi : SmallInts 1000000 items) (hsz : items.size ≤ 63) (F6 : Fz f s.heap [L, RL, it]) (itL : it ≠ L) (itR : it ≠ RL) (hLR : L ≠ RL)
    (ns6 : s.heap.Ns L m) (lr6 : LOf s.heap RL (refs as)) (rf : RowsIn f as rows) (hrl : as.length ≤ 9) (m1 : m "numbers" = some (.ref N)) (m2 : m "rows" = some (.ref RL)) (mk : m "k" = some (.int a ti)) (hit6 : IsRangeIter s.heap it ia ib 1)
    (h : ∀ h' t' m' f' row x, StIn f f' → Fz f' h' [L, RL, it] → h'.Ns L m' → LOf h' RL (refs (as ++ [x])) → RowsIn f' (as ++ [x]) (rows ++ [row]) → Row.OK row → m' "numbers" = some (.ref N) → m' "rows" = some (.ref RL) → h'.objs.size = s.heap.objs.size + 7 → IsRangeIter h' it ia ib 1 → Q .next { s with heap := h', toks := t' }) :
    wpAny (model PySem.Challenge.pw_mg0026_01 w) A (execs rowsBody (callEnv (mkFd 10 69 pm) L 70)) Q E s := by
  refine wpAny_execs_cons (wpAny_Assign_Name (callB1 (id := "sum") (fun Q hQ => ldB B (gf.trans F6.st) (fun _ x => by simp only [globsAre] at x; simp [x]) (fun _ x => by simp only [bltsAre] at x; simp [x]) hQ) ?_))
  refine cutL ?_
  refine ldc rfl rfl ns6 m1 ?_
  refine wpAny_evalPart_some ?_
  refine ldc rfl rfl ns6 mk ?_
  refine wpAny_evalPart_none ?_
  refine wpAny_evalPart_some (wpAny_Constant_int ?_)
  refine ⟨N, items, some a, none, some 6, rfl, F6.st.isList lf, ?_, ?_, ?_, by decide, by omega, fun h7 l7 (k7 : StIn s.heap h7) (s7 : h7.objs.size = s.heap.objs.size + 2) => ?_⟩
  · exact .int _ _
  · exact .none
  · exact .int _ _
  refine sumSmall hh l7 (fun v hv => hi v (pick_mem hv)) (by omega) (by omega) (Nat.le_trans (slicePick_size_le ..) (by omega)) (fun h8 tk8 t8 n (k8 : StIn h7 h8) (s8 : h8.objs.size = h7.objs.size + 4) hn0 hn1 _ => ?_)
  have hn2 : n < 1000000000 := by
    have z := slicePick_size_le items (some a) none (some 6)
    omega
  have k68 := k7.trans k8
  refine wpAny_storeName_local rfl (k68.ns ns6) (fun h9 ns9 w9 => ?_)
  have F9 : Fz f h9 [L, RL, it] := (F6.ext k68).same (x := L) (by simp) w9
  have lr9 : LOf h9 RL (refs as) := (k68.lof lr6).same w9 hLR.symm
  have hit9 : IsRangeIter h9 it ia ib 1 := (w9.2 it itL).trans (k68 _ _ hit6)
  have s9 : h9.objs.size = h8.objs.size := w9.1
  refine wpAny_execs_cons (wpAny_Expr_any (meth1 PySem.slot_list_append PySem.type_list_append ?_))
  refine ldc rfl rfl ns9 m2 ?_
  refine ⟨RL, _, rfl, lr9, ?_⟩
  refine list3 ?_
  refine wpAny_BinOp (wpAny_Constant_int (wpAny_BinOp (ldc rfl rfl ns9 rfl (wpAny_Constant_int (mod_int' (by decide) (PyProof.Rows.add_int ?_))))))
  refine wpAny_BinOp (wpAny_BinOp (wpAny_BinOp (ldc rfl rfl ns9 rfl (wpAny_Constant_int (floordiv_int (by decide) (wpAny_Constant_int (mod_int' (by decide) (wpAny_Constant_int (PyProof.Rows.sub_int ?_)))) (Or.inl (PyProof.noPylong_small (by omega))))))))
  refine wpAny_BinOp (wpAny_Constant_int (wpAny_BinOp (wpAny_BinOp (ldc rfl rfl ns9 rfl (wpAny_Constant_int (floordiv_int (by decide) (wpAny_Constant_int (mod_int' (by decide) (PyProof.Rows.add_int ?_))) (Or.inl (PyProof.noPylong_small (by omega)))))))))
  intro h10 (l10 : LOf h10 h9.objs.size _) (k10 : StIn h9 h10) (s10 : h10.objs.size = h9.objs.size + 1)
  refine appL (k10.lof lr9) (by rw [refs_size]; omega) (fun h11 l11 w11 => ?_)
  have F10 := F9.ext k10
  have F11 : Fz f h11 [L, RL, it] := F10.same (x := RL) (by simp) w11
  have s11 : h11.objs.size = h10.objs.size := w11.1
  have aL : h9.objs.size ≠ L := by obtain ⟨o, ho⟩ := Ns_get ns9; exact Nat.ne_of_gt (Heap.lt_size ho)
  have aR : h9.objs.size ≠ RL := by obtain ⟨o, ho⟩ := lr9.get; exact Nat.ne_of_gt (Heap.lt_size ho)
  have aI : h9.objs.size ≠ it := Nat.ne_of_gt (Heap.lt_size hit9)
  refine wpAny_execs_nil ?_
  have F12 : Fz (hideAll h11 [L, RL, it]) h11 [L, RL, it] := Fz.top _ _
  have l11' := l10.same w11 aR
  obtain ⟨nn, en⟩ := l11'
  rw [refs_push] at l11
  exact h h11 _ _ _ ⟨_, _, _⟩ h9.objs.size F11.grow F12 ((k10.ns ns9).sameBut w11 hLR) l11 ((rf.keeps F11.grow).snoc (r := ⟨_, _, _⟩) ⟨_, _, _, nn, hideAll_get _ en (by simp [aL, aR, aI])⟩) (mkRow_ok n) m1 m2 (by omega) ((w11.2 it itR).trans (k10 _ _ hit9))
theorem rows_tail {w : World} {A : Around} {s : Shared} {g : Heap} {N L RL : Addr} {items : Array Value} {pm : Value} {as : List Addr} {rows : List Row} {m : Str → Option Value}
    {Q : Flow → Shared → Prop} {E : Value → Shared → Prop} (B : Base g) (hh : A.handled = none) (hg : StIn g s.heap) (hl : s.heap.IsList N items) (hi : SmallInts 1000000 items) (hsz : items.size ≤ 63)
    {f : Heap} (F : Fz f s.heap [L, RL]) (gf : StIn g f) (lf : f.IsList N items) (hLR : L ≠ RL) (ns : s.heap.Ns L m) (lr : LOf s.heap RL (refs as)) (rf : RowsIn f as rows) (hr3 : rows.length = 3) (hok : ∀ r ∈ rows, r.OK)
    (m1 : m "numbers" = some (.ref N)) (m2 : m "rows" = some (.ref RL))
    (h : ∀ h' t' rows', StIn f h' → h'.objs.size = s.heap.objs.size + 9 + 7 * (min 6 items.size) → RowsAt h' RL rows' → RowsOK rows' → Q (.ret (.ref RL)) { s with heap := h', toks := t' }) :
    wpAny (model PySem.Challenge.pw_mg0026_01 w) A (execs ((fnBody 10).drop 1) (callEnv (mkFd 10 69 pm) L 70)) Q E s := by
  refine wpAny_execs_cons (wpAny_For ?_)
  refine callT1 (T := "range") (fun Q hQ => ldB B hg (fun _ x => by simp only [globsAre] at x; simp [x]) (fun _ x => by simp only [bltsAre] at x; simp [x]) hQ) ?_
  refine callB2 (id := "min") (fun Q hQ => ldB B hg (fun _ x => by simp only [globsAre] at x; simp [x]) (fun _ x => by simp only [bltsAre] at x; simp [x]) hQ) ?_
  refine wpAny_Constant_int ?_
  refine callB1 (id := "len") (fun Q hQ => ldB B hg (fun _ x => by simp only [globsAre] at x; simp [x]) (fun _ x => by simp only [bltsAre] at x; simp [x]) hQ) ?_
  refine ldc rfl rfl ns m1 ?_
  refine len_list hl (by omega) ?_
  refine minTwo hh (fun h1 t1 (k1 : StIn s.heap h1) (s1 : h1.objs.size = s.heap.objs.size + 5) => ?_)
  have er : (if (items.size : Int) < 6 then (items.size : Int) else 6) = ((min 6 items.size : Nat) : Int) := by split <;> omega
  rw [er]
  generalize hr : min 6 items.size = r
  have hr6 : r ≤ 6 := by omega
  refine rangeIt (by omega) (by omega) (fun it h2 t2 (k2 : StIn h1 h2) (s2 : h2.objs.size = h1.objs.size + 2) (n2 : h1.get? it = none) hit2 => ?_)
  have k02 := k1.trans k2
  have itL : it ≠ L := fun e => by obtain ⟨o, ho⟩ := Ns_get (k1.ns ns); rw [e, ho] at n2; cases n2
  have itR : it ≠ RL := fun e => by obtain ⟨o, ho⟩ := (k1.lof lr).get; rw [e, ho] at n2; cases n2
  have fit : f.get? it = none := (F.st.trans k1).none n2
  refine codeAny_forLoop (fun n s' => ∃ i h' t' m' as' rows' f', s' = { s with heap := h', toks := t' } ∧ n = r - i ∧ i ≤ r ∧ Fz f' h' [L, RL, it] ∧ StIn f f' ∧ h'.Ns L m' ∧ LOf h' RL (refs as') ∧ RowsIn f' as' rows' ∧ rows'.length = 3 + i ∧ (∀ r ∈ rows', r.OK) ∧
     m' "numbers" = some (.ref N) ∧ m' "rows" = some (.ref RL) ∧ h'.objs.size = s.heap.objs.size + 7 + 7 * i ∧ ∃ a b : Int, a = i ∧ b = (r : Int) - i ∧ IsRangeIter h' it a b 1) ?_ r ?_
  · rintro n s' ⟨i, h', t', m', as', rows', f', rfl, rfl, hi', F', ff, ns', lr', rf', hr', hok', m1', m2', sz', a, b, ea, eb, hit'⟩
    by_cases hir : i = r
    · refine rangeEnd hh hit' (by omega) (fun h5 k5 (s5 : h5.objs.size = h'.objs.size + 2) => ?_)
      refine wpAny_execs_nil ?_
      refine wpAny_execs_cons (wpAny_Return_some ?_)
      have F5 := F'.extBut (x := it) (by simp) k5
      refine ldc rfl rfl (ns'.extBut k5 itL.symm) m2' ?_
      refine h h5 t' rows' (ff.trans F5.st) (by omega) ⟨as', lr'.ext k5 itR.symm, rf'.keeps F5.st⟩ ⟨by omega, by omega, hok'⟩
    · refine wpAny_pyNext_range_item hit' (by omega) (fun h5 hit5 k5 => ?_)
      have F5 := F'.same (x := it) (by simp) k5
      refine wpAny_assign_Name (wpAny_storeName_local rfl (ns'.sameBut k5 itL.symm) (fun h6 ns6 w6 => ?_))
      have F6 : Fz f' h6 [L, RL, it] := F5.same (x := L) (by simp) w6
      have lr6 : LOf h6 RL (refs as') := (lr'.same k5 itR.symm).same w6 hLR.symm
      have hit6 : IsRangeIter h6 it (a + 1) (b - 1) 1 := (w6.2 it itL).trans hit5
      have gf6 : StIn g h6 := (gf.trans ff).trans F6.st
      have s6 : h6.objs.size = h'.objs.size := w6.1.trans k5.1
      have l6 : h6.IsList N items := F6.st.isList (ff.isList lf)
      refine rows_turn (s := { s with heap := h6, toks := _ }) B hh (gf.trans ff) (ff.isList lf) hi hsz F6 itL itR hLR ns6 lr6 rf' (by have := rf'.1; omega) m1' m2' rfl hit6 (fun h7 t7 m7 f7 row x k7 F7 ns7 l7 rf7 ok7 n1 n2 (s7 : h7.objs.size = h6.objs.size + 7) hit7 => ?_)
      refine ⟨r - (i + 1), by omega, i + 1, h7, t7, m7, as' ++ [x], rows' ++ [row], f7, rfl, rfl, by omega, F7, ff.trans k7, ns7, l7, rf7, by simp; omega, ?_, n1, n2, by omega, a + 1, b - 1, by omega, by omega, hit7⟩
      intro r hr
      rcases List.mem_append.mp hr with hr | hr
      · exact hok' r hr
      · rw [List.mem_singleton] at hr
        subst hr
        exact ok7
  · have F2 : Fz f h2 [L, RL, it] := ⟨F.st.trans k02, fun x hx => by
      rcases List.mem_cons.mp hx with rfl | hx
      · exact F.no _ (by simp)
      · rcases List.mem_cons.mp hx with rfl | hx
        · exact F.no _ (by simp)
        · rw [List.mem_singleton] at hx; subst hx; exact fit⟩
    exact ⟨0, h2, t2, m, as, rows, f, rfl, rfl, by omega, F2, StIn.refl _, k02.ns ns, k02.lof lr, rf, by omega, hok, m1, m2, by omega, 0, r, rfl, by omega, hit2⟩

theorem rowsIn3 {h : Heap} {a1 a2 a3 : Addr} {r1 r2 r3 : Row} (x : RowAt h a1 r1) (y : RowAt h a2 r2) (z : RowAt h a3 r3) : RowsIn h [a1, a2, a3] [r1, r2, r3] :=
  ⟨rfl, fun i hi => match i, hi with | 0, _ => x | 1, _ => y | 2, _ => z⟩
theorem rows_spec {w : World} {A : Around} {s : Shared} {g : Heap} {N : Addr} {items : Array Value}
    {Q : Value → Shared → Prop} {E : Value → Shared → Prop} (B : Base g) (R : Room A 380 390) (hg : StIn g s.heap) (hl : s.heap.IsList N items) (hi : SmallInts 1000000 items) (hsz : items.size ≤ 63)
    (h : ∀ h' t' a rows, StIn s.heap h' → h'.objs.size = s.heap.objs.size + 14 + 7 * (min 6 items.size) → s.heap.get? a = none → RowsAt h' a rows → RowsOK rows → Q (.ref a) { s with heap := h', toks := t' }) :
    wpAny (model PySem.Challenge.pw_mg0026_01 w) A (call (.ref 70) [.ref N]) Q E s := by
  refine callFnX (n := 10) (cd := 69) (B.f70.keeps hg) (B.lim.keeps hg) R (by omega) (bind70 · _) (by decide) rfl (fun _ => ⟨rfl, rfl, rfl, rfl⟩) ⟨rfl, rfl, rfl⟩ ?_
  intro pm h0 L hL ns0 k0 s0 R' E'
  have nL : s.heap.get? L = none := fresh_none (by omega)
  refine wpAny_execs_cons (wpAny_Assign_Name (list3 ?_))
  refine list3 (wpAny_Constant_int (wpAny_UnaryOp (wpAny_Constant_int (PyProof.Rows.neg_int (wpAny_Constant_int fun h1 (l1 : LOf h1 h0.objs.size _) (k1 : StIn h0 h1) (s1 : h1.objs.size = h0.objs.size + 1) => ?_)))))
  refine list3 (wpAny_Constant_int (wpAny_UnaryOp (wpAny_Constant_int (PyProof.Rows.neg_int (wpAny_Constant_int fun h2 (l2 : LOf h2 h1.objs.size _) (k2 : StIn h1 h2) (s2 : h2.objs.size = h1.objs.size + 1) => ?_)))))
  refine list3 (wpAny_Constant_int (wpAny_UnaryOp (wpAny_Constant_int (PyProof.Rows.neg_int (wpAny_Constant_int fun h3 (l3 : LOf h3 h2.objs.size _) (k3 : StIn h2 h3) (s3 : h3.objs.size = h2.objs.size + 1) => ?_)))))
  intro h4 (l4 : LOf h4 h3.objs.size (refs [h0.objs.size, h1.objs.size, h2.objs.size])) (k4 : StIn h3 h4) (s4 : h4.objs.size = h3.objs.size + 1)
  have k04 : StIn h0 h4 := ((k1.trans k2).trans k3).trans k4
  have l1' := ((k2.trans k3).trans k4).lof l1
  have l2' := (k3.trans k4).lof l2
  have l3' := k4.lof l3
  have hLR : L ≠ h3.objs.size := by omega
  refine wpAny_storeName_local rfl (k04.ns ns0) (fun h5 ns5 w5 => ?_)
  have ke : StIn s.heap h5 := ((k0.trans k04).same nL w5)
  have s5 : h5.objs.size = h4.objs.size := w5.1
  have F5 : Fz (hideAll h5 [L, h3.objs.size]) h5 [L, h3.objs.size] := Fz.top _ _
  have nR : s.heap.get? h3.objs.size = none := fresh_none (by omega)
  have sf : StIn s.heap (hideAll h5 [L, h3.objs.size]) := fun b o e => hideAll_get _ (ke b o e) (by
    simp only [List.mem_cons, List.not_mem_nil, or_false]
    rintro (rfl | rfl)
    · rw [nL] at e; cases e
    · rw [nR] at e; cases e)
  have at' : ∀ {x : Addr} {l : Array Value}, LOf h4 x l → x ≠ L → x ≠ h3.objs.size → LOf (hideAll h5 [L, h3.objs.size]) x l := fun {x l} y y1 y2 => by
    obtain ⟨n, e⟩ := y
    exact ⟨n, hideAll_get _ ((w5.2 x y1).trans e) (by simp [y1, y2])⟩
  have z1 : h0.objs.size ≠ L := by omega
  have z2 : h0.objs.size ≠ h3.objs.size := by omega
  have z3 : h1.objs.size ≠ L := by omega
  have z4 : h1.objs.size ≠ h3.objs.size := by omega
  have z5 : h2.objs.size ≠ L := by omega
  have z6 : h2.objs.size ≠ h3.objs.size := by omega
  refine rows_tail (s := { s with heap := h5, toks := _ }) (rows := [⟨2, -3, 4⟩, ⟨3, -5, 5⟩, ⟨6, -7, 3⟩]) (B.keeps hg) R'.handled ke (ke.isList hl) hi hsz F5 sf (sf.isList hl) hLR ns5 (l4.same w5 hLR.symm)
    (rowsIn3 ⟨_, _, _, at' l1' z1 z2⟩ ⟨_, _, _, at' l2' z3 z4⟩ ⟨_, _, _, at' l3' z5 z6⟩) rfl ?_ rfl rfl ?_
  · intro r hr
    simp only [List.mem_cons, List.not_mem_nil, or_false] at hr
    rcases hr with rfl | rfl | rfl <;> (simp only [Row.OK]; omega)
  · intro h' t' rows' k' (s' : h'.objs.size = h5.objs.size + 9 + 7 * min 6 items.size) ra ro
    exact h h' t' _ rows' (sf.trans k') (by omega) nR ra ro
end Mine
end
section
open PySem PySem.W PyProof.Rows
namespace Mine
set_option maxRecDepth 100000
set_option maxHeartbeats 400000
noncomputable def lawEnv (pm : Value) (L : Addr) : Env := callEnvC (mkFd 13 86 pm) L 87
theorem cells13 (h : Heap) : pushCells h (fnScope 13).names = (h.push { cls := .type "cell", data := .cell none }).push { cls := .type "cell", data := .cell none } := by rfl
theorem cell_rows (pm : Value) (L : Addr) : (lawEnv pm L).cells.lookup ("rows" : Str) = some (L + 1) := rfl
theorem cell_key (pm : Value) (L : Addr) : (lawEnv pm L).cells.lookup ("key" : Str) = some (L + 1 + 1) := rfl
theorem bind87 (pm a : Value) : bindArgs (mkFd 13 86 pm) ⟨[a], []⟩ = pure [(("script" : Str), a)] := by rfl
theorem callLaw {w : World} {A : Around} {s : Shared} {S : Value} {d u : Nat} {Q : Value → Shared → Prop} {E : Value → Shared → Prop}
    (X : FnAt s.heap 87 13 86) (lim : s.heap.NoLimit) (R : Room A d u) (hd : d < 900)
    (h : ∀ pm h₀ t₀ L, L = s.heap.objs.size → h₀.Ns L (fun x => if x = ("script" : Str) then some S else none) → h₀.IsCell (L + 1) none → h₀.IsCell (L + 1 + 1) none → StIn s.heap h₀ → h₀.objs.size = s.heap.objs.size + 3 → Room (A.deeper (lawEnv pm L)) (d + 1) (u + 3) →
      ∀ E', wpAny (model PySem.Challenge.pw_mg0026_01 w) (A.deeper (lawEnv pm L)) (execs (fnBody 13) (lawEnv pm L)) (fun fl s' => Q (match fl with | .ret v => v | _ => .none) s') E' { s with heap := h₀, toks := t₀ }) :
    wpAny (model PySem.Challenge.pw_mg0026_01 w) A (call (.ref 87) [S]) Q E s := by
  obtain ⟨o, pm, ho, hdt⟩ := X.obj
  refine wpAny_call (codeAny_call_function (fd := mkFd 13 86 pm) (body := fnBody 13) ?_ ho hdt rfl rfl rfl X.code ?_)
  · have := R.depth; show A.depth < 1000; omega
  rw [bind87]
  refine wpAny_pure ?_
  show wpAny _ _ (newFunctionEnv (fnScope 13) mainGlobals [] _ _ (some 87) (.ref 86) none builtinsNs) _ _ _
  simp only [newFunctionEnv, Option.isSome_none, Bool.false_eq_true, if_false]
  refine wpAny_bind (wpAny_alloc ?_)
  refine wpAny_bind (wpAny_layCells _ (fun name kind cells => by cases hkc : kind == NameKind.cell <;> simp) _ _ _ _ ?_)
  have n3 : Heap.Ns (pushCells (s.heap.push { cls := .type "frame", data := .dict #[] }) (fnScope 13).names) s.heap.objs.size (fun _ => none) := (Heap.Ns.new s.heap (.type "frame")).keeps (pushCells_keeps _ _)
  have k3 : StIn s.heap (pushCells (s.heap.push { cls := .type "frame", data := .dict #[] }) (fnScope 13).names) := fun b o e => pushCells_keeps _ _ b o (Heap.get?_push_of_some _ e)
  have e3 : pushCells (s.heap.push { cls := .type "frame", data := .dict #[] }) (fnScope 13).names = ((s.heap.push { cls := .type "frame", data := .dict #[] }).push { cls := .type "cell", data := .cell none }).push { cls := .type "cell", data := .cell none } := cells13 _
  have c1 : (((s.heap.push { cls := .type "frame", data := .dict #[] }).push { cls := .type "cell", data := .cell none }).push { cls := .type "cell", data := .cell none }).IsCell (s.heap.objs.size + 1) none := by
    refine ⟨{ cls := .type "cell", data := .cell none }, Heap.get?_push_of_some _ ?_, rfl⟩
    have z := Heap.get?_push_size (s.heap.push { cls := .type "frame", data := .dict #[] }) (o := { cls := .type "cell", data := .cell none }) rfl
    rwa [Heap.size_push] at z
  have c2 : (((s.heap.push { cls := .type "frame", data := .dict #[] }).push { cls := .type "cell", data := .cell none }).push { cls := .type "cell", data := .cell none }).IsCell (s.heap.objs.size + 1 + 1) none := by
    refine ⟨{ cls := .type "cell", data := .cell none }, ?_, rfl⟩
    have z := Heap.get?_push_size ((s.heap.push { cls := .type "frame", data := .dict #[] }).push { cls := .type "cell", data := .cell none }) (o := { cls := .type "cell", data := .cell none }) rfl
    rwa [Heap.size_push, Heap.size_push] at z
  have s3 : (((s.heap.push { cls := .type "frame", data := .dict #[] }).push { cls := .type "cell", data := .cell none }).push { cls := .type "cell", data := .cell none }).objs.size = s.heap.objs.size + 3 := by rw [Heap.size_push, Heap.size_push, Heap.size_push]
  rw [← e3] at c1 c2 s3
  rw [show ({ s with heap := s.heap.push { cls := .type "frame", data := .dict #[] } } : Shared).heap.objs.size = s.heap.objs.size + 1 from Heap.size_push ..]
  dsimp only
  generalize pushCells (s.heap.push { cls := .type "frame", data := .dict #[] }) (fnScope 13).names = h3 at n3 k3 c1 c2 s3 ⊢
  rw [List.forIn_cons]
  refine wpAny_bind (wpAny_bind (wpAny_bind (wpAny_storeName_local (env := lawEnv pm s.heap.objs.size) rfl n3 (fun h4 n4 w4 => ?_))))
  refine wpAny_pure ?_
  show wpAny _ _ (forIn [] _ _) _ _ _
  rw [List.forIn_nil]
  refine wpAny_pure (wpAny_pure ?_)
  have nL : s.heap.get? s.heap.objs.size = none := fresh_none (Nat.le_refl _)
  have k4 : StIn s.heap h4 := k3.same nL w4
  refine ⟨lim.keeps k4, codeAny_func (h pm h4 _ _ rfl n4 ?_ ?_ k4 (w4.1.trans s3) R.deeper _)⟩
  · obtain ⟨o, e, r⟩ := c1; exact ⟨o, (w4.2 _ (Nat.succ_ne_self _)).trans e, r⟩
  · obtain ⟨o, e, r⟩ := c2; exact ⟨o, (w4.2 _ (show s.heap.objs.size + 1 + 1 ≠ s.heap.objs.size by omega)).trans e, r⟩
end Mine
end
section
open PySem PySem.W PyProof.Rows
namespace Mine
set_option maxRecDepth 100000
set_option maxHeartbeats 1000000
section
variable {prog : Program} {w : World} {A : Around} {E : Value → Shared → Prop} {s : Shared} {env : Env}
theorem listComp {elt target iter : Expr} {scope : Scope} {pos : Pos} {cl : List (Str × Addr)} {Q : Value → Shared → Prop}
    (hclos : closureFor scope env = pure cl) (hcell : ∀ y ∈ scope.names, y.2 ≠ .cell) (hkind : scope.kind = .function) (hnames : ∀ x ∈ scope.names, x.2 = .local → scope.names.lookup x.1 = some .local)
    (h : wpAny (model prog w) A (eval iter env) (fun x s1 => wpAny (model prog w) A (pyIter x) (fun it s2 => ∀ D C h3, D = s2.heap.objs.size → C = D + 1 → StIn s2.heap h3 → h3.objs.size = s2.heap.objs.size + 2 → LOf h3 D #[] → h3.Ns C (fun _ => none) →
      (∀ Q E, Q it { s2 with heap := h3 } → wpAny (model prog w) A (pyIter it) Q E { s2 with heap := h3 }) ∧
      codeAny (model prog w) A (.compLoop (.ListComp elt [⟨target, iter, [], 0⟩] scope pos) 0 it (.ref D) (compEnvC scope cl C env))
        (fun r s' => r = .ok .next ∧ (∃ m, s'.heap.Ns C m) ∧ ∀ h', Heap.SameBut C s'.heap h' → Q (.ref D) { s' with heap := h' }) { s2 with heap := h3 }) E s1) E s)
    (hs : ∀ x, foldedSetIterable iter env x = pure x := by intro _; rfl) :
    wpAny (model prog w) A (eval (.ListComp elt [⟨target, iter, [], 0⟩] scope pos) env) Q E s := by
  rw [eval_ListComp]
  refine wpAny_comprehension_free (use := none) rfl hs hclos hkind hnames (wpAny_mono h (fun xv s1 h1 => wpAny_mono h1 (fun it s2 h2 => ?_) fun _ _ e => e) fun _ _ e => e)
  refine wpAny_newObj_type ?_ (by size_fits)
  refine wpAny_newFunctionEnv hcell (by intro y hy; simp at hy) (fun h3 ns3 w3 => ?_) hkind
  have kk : StIn s2.heap h3 := fun b o e => by
    have hb : b < s2.heap.objs.size := Heap.lt_size e
    refine (w3.2 b ?_).trans (Heap.get?_push_of_some _ (Heap.get?_push_of_some _ e))
    show b ≠ (s2.heap.push _).objs.size
    rw [Heap.size_push]; exact Nat.ne_of_lt (Nat.lt_succ_of_lt hb)
  have sz : h3.objs.size = s2.heap.objs.size + 2 := by rw [w3.1, Heap.size_push]; show (s2.heap.push _).objs.size + 1 = _; rw [Heap.size_push]
  have lo : LOf h3 s2.heap.objs.size #[] := by
    refine ⟨0, (w3.2 _ ?_).trans (Heap.get?_push_of_some _ (Heap.get?_push_size _ rfl))⟩
    show s2.heap.objs.size ≠ (s2.heap.push _).objs.size
    rw [Heap.size_push]; exact Nat.ne_of_lt (Nat.lt_succ_self _)
  have eC : ({ s2 with heap := s2.heap.push { cls := .type "list", data := .seq ([] : List Value).toArray } } : Shared).heap.objs.size = s2.heap.objs.size + 1 := Heap.size_push ..
  rw [eC] at ns3 ⊢
  obtain ⟨hre, hloop⟩ := h2 s2.heap.objs.size (s2.heap.objs.size + 1) h3 rfl rfl kk sz lo ns3
  have fin : codeAny (model prog w) A (.compLoop (.ListComp elt [⟨target, iter, [], 0⟩] scope pos) 0 it (.ref s2.heap.objs.size) (compEnvC scope cl (s2.heap.objs.size + 1) env))
      (compPost (model prog w) A E none Q (.ref s2.heap.objs.size) (s2.heap.objs.size + 1)) { s2 with heap := h3 } := codeAny_mono hloop fun r s' hr => by
    obtain ⟨rfl, ⟨m, hm⟩, hq⟩ := hr
    exact ⟨m, hm, hq⟩
  exact codeAny_compStart_list fin (hre _ _ fin)
end
end Mine
end
section
open PySem PySem.W PyProof.Rows
namespace Mine
set_option maxRecDepth 100000
set_option maxHeartbeats 1000000
section
variable {prog : Program} {w : World} {A : Around} {E : Value → Shared → Prop} {s : Shared} {env : Env}
theorem ldl {x : Str} {pos : Pos} {m : Str → Option Value} {v : Value} {Q : Value → Shared → Prop} (hn : s.heap.Ns env.locals m) (hv : m x = some v) (h : Q v s)
    (hk : env.scope.kind = .function := by rfl) (hl : env.kindOf x = some .local := by rfl) (hd : (x == ("__debug__" : Str)) = false := by decide) :
    wpAny (model prog w) A (eval (.Name x pos) env) Q E s := wpAny_Name (wpAny_loadName_local hk hl hn hv h) hd
theorem nums_comp {y : Str} {px px' p1 p2 p3 p4 p5 p6 p7 py pos : Pos} {k1 k2 k3 : Nat} {scope : Scope} {S : Addr} {items : Array Value} {m : Str → Option Value} {Q : Value → Shared → Prop} (hh : A.handled = none)
    (hclos : closureFor scope env = pure []) (hcell : ∀ y ∈ scope.names, y.2 ≠ .cell) (hkind : scope.kind = .function) (hnames : ∀ x ∈ scope.names, x.2 = .local → scope.names.lookup x.1 = some .local)
    (hx : (relabel scope env).names.lookup ("x" : Str) = some .local)
    (hl : s.heap.IsList S items) (hi : ∀ v ∈ items, ∃ n t, v = .int n t) (hsz : items.size ≤ 63) (hn : s.heap.Ns env.locals m) (hv : m y = some (.ref S)) (hky : env.scope.kind = .function) (hly : env.kindOf y = some .local) (hdy : (y == ("__debug__" : Str)) = false)
    (h : ∀ h' t' D ys, StIn s.heap h' → h'.objs.size = s.heap.objs.size + 7 → h'.IsList D ys → SmallInts 1000000 ys → ys.size = items.size → Q (.ref D) { s with heap := h', toks := t' }) :
    wpAny (model prog w) A (eval (.ListComp (.BinOp (.Name "x" px') .Mod (.BinOp (.Constant (.int 10) k1 p1) .Pow (.Constant (.int 6) k2 p2) p3) p4) [⟨.Name "x" px, .Subscript (.Name y py) (.Slice none (some (.Constant (.int 63) k3 p5)) none p6) p7, [], 0⟩] scope pos) env) Q E s := by
  refine listComp hclos hcell hkind hnames (cutL ?_) (by intro _; rfl)
  · refine ldl hn hv ?_ hky hly hdy
    refine wpAny_evalPart_none ?_
    refine wpAny_evalPart_some (wpAny_Constant_int ?_)
    refine wpAny_evalPart_none ?_
    refine ⟨S, items, none, some 63, none, rfl, hl, .none, .int _ _, .none, by decide, by omega, fun h1 l1 (k1 : StIn s.heap h1) (s1 : h1.objs.size = s.heap.objs.size + 2) => ?_⟩
    have el : slicePick items none (some 63) none = items := by
      have z := slicePick_upto' items 63
      rw [List.take_of_length_le (by simp; omega)] at z
      simpa using z
    rw [el] at l1
    refine wpAny_pyIter_list l1 ?_
    intro D C h3 hD hC k3 s3 lo ns3
    have sI : (h1.push { cls := .type "list_iterator", data := .fields #[.ref (s.heap.objs.size + 1), .int 0 0] }).objs.size = h1.objs.size + 1 := Heap.size_push ..
    have hI : (h1.push { cls := .type "list_iterator", data := .fields #[.ref (s.heap.objs.size + 1), .int 0 0] }).IsListIter h1.objs.size (s.heap.objs.size + 1) 0 := ⟨_, Heap.get?_push_size _ rfl, rfl, rfl⟩
    have kI : StIn h1 (h1.push { cls := .type "list_iterator", data := .fields #[.ref (s.heap.objs.size + 1), .int 0 0] }) := (StIn.refl _).push _
    dsimp only at hD k3 s3
    generalize (h1.push { cls := .type "list_iterator", data := .fields #[.ref (s.heap.objs.size + 1), .int 0 0] }) = h2 at sI hI kI hD k3 s3
    have hI3 : h3.IsListIter h1.objs.size (s.heap.objs.size + 1) 0 := let ⟨o, e, r⟩ := hI; ⟨o, k3 _ _ e, r⟩
    have l3 : h3.IsList (s.heap.objs.size + 1) items := (kI.trans k3).isList l1
    have nIC : h1.objs.size ≠ C := by omega
    have nID : h1.objs.size ≠ D := by omega
    have nDC : D ≠ C := by omega
    have nlI : s.heap.objs.size + 1 ≠ h1.objs.size := by omega
    have nlC : s.heap.objs.size + 1 ≠ C := by omega
    have nlD : s.heap.objs.size + 1 ≠ D := by omega
    refine ⟨fun Q E hq => wpAny_pyIter_listiter hI3 hq, ?_⟩
    have k03 : StIn s.heap h3 := (k1.trans kI).trans k3
    have f3 : Fz s.heap h3 [C, D, h1.objs.size] := ⟨k03, fun x hx => by
      refine fresh_none ?_
      simp only [List.mem_cons, List.not_mem_nil, or_false] at hx
      rcases hx with rfl | rfl | rfl <;> omega⟩
    refine codeAny_compLoop_list (fun n s' => ∃ i h' t' m' ys, s' = { s with heap := h', toks := t' } ∧ n = items.size - i ∧ i ≤ items.size ∧ Fz s.heap h' [C, D, h1.objs.size] ∧ h'.IsListIter h1.objs.size (s.heap.objs.size + 1) i ∧
      h'.IsList (s.heap.objs.size + 1) items ∧ h'.IsList D ys ∧ h'.Ns C m' ∧ SmallInts 1000000 ys ∧ ys.size = i ∧ h'.objs.size = s.heap.objs.size + 5) ?_ items.size ?_
    · rintro n s' ⟨i, h', t', m', ys, rfl, rfl, hi', F', hit', hl', hys, hC', hsm, hys', sz'⟩
      by_cases hir : i = items.size
      · refine listEnd hh hit' hl' (by simp [hir]) fun h4 he4 (s4 : h4.objs.size = h'.objs.size + 2) => ?_
        have F4 := F'.extBut (x := h1.objs.size) (by simp) he4
        refine ⟨rfl, ⟨_, hC'.extBut he4 nIC.symm⟩, fun h5 w5 => ?_⟩
        have s5 : h5.objs.size = h4.objs.size := w5.1
        exact h h5 _ D ys (F4.same (x := C) (by simp) w5).st (by omega) ((hys.extBut he4 nID.symm).extBut w5.extBut nDC) hsm (by omega)
      · have hlt : i < items.size := by omega
        obtain ⟨v, t, ev⟩ := hi items[i] (Array.getElem_mem hlt)
        refine wpAny_pyNext_list_item hit' hl' (x := .int v t) (by simp [hlt, ev]) fun h4 hit4 w4 => ?_
        refine wpAny_assign_Name (wpAny_storeName_local (env := compEnvC scope [] C env) hx (hC'.sameBut w4 nIC.symm) (fun h5 ns5 w5 => ?_) (by simp [compEnvC, relabel, hkind]))
        have F5 := (F'.same (x := h1.objs.size) (by simp) w4).same (x := C) (by simp) w5
        refine wpAny_BinOp (ldl ns5 (by simp; rfl) ?_ (by simp [compEnvC, relabel, hkind]) hx)
        refine wpAny_BinOp (wpAny_Constant_int (wpAny_Constant_int (pow_int (by decide) (by decide) ?_)))
        refine mod_int' (by decide) ?_
        have w45 : ∀ b, b ≠ C → b ≠ h1.objs.size → h5.get? b = h'.get? b := fun b hb hb' => (w5.2 b hb).trans (w4.2 b hb')
        have hys5 : h5.IsList D ys := let ⟨o, e, r⟩ := hys; ⟨o, (w45 D nDC nID.symm).trans e, r⟩
        refine wpAny_list_append (hsz := by simp [sizeLine]; omega) hys5 fun h6 l6 w6 => ?_
        have b1 := Int.fmod_nonneg_of_pos v (b := 1000000) (by omega)
        have b2 := Int.fmod_lt_of_pos v (b := 1000000) (by omega)
        have z4 : h4.objs.size = h'.objs.size := w4.1
        have z5 : h5.objs.size = h4.objs.size := w5.1
        have z6 : h6.objs.size = h5.objs.size := w6.1
        refine ⟨items.size - (i + 1), by omega, i + 1, h6, _, _, _, rfl, rfl, by omega, F5.same (x := D) (by simp) w6, ?_, ?_, l6, ns5.sameBut w6 nDC.symm, ?_, by simp [hys'], by omega⟩
        · obtain ⟨o, e, r⟩ := hit4
          exact ⟨o, (w6.2 _ nID).trans ((w5.2 _ nIC).trans e), r⟩
        · obtain ⟨o, e, r⟩ := hl'
          exact ⟨o, (w6.2 _ nlD).trans ((w45 _ nlC nlI).trans e), r⟩
        · intro v' hv'
          rw [Array.mem_push] at hv'
          rcases hv' with hv' | rfl
          · exact hsm v' hv'
          · exact ⟨_, _, rfl, b1, b2⟩
    · exact ⟨0, h3, _, _, #[], rfl, by simp, by omega, f3, hI3, l3, lo.isList, ns3, (fun v hv => by simp at hv), rfl, by omega⟩
end
end Mine
end
section
open PySem PySem.W PyProof.Rows
namespace Mine
set_option maxRecDepth 100000
set_option maxHeartbeats 1000000
/-- the class statement's body -/
noncomputable def kBody : List Stmt := match (fnBody 1).getD 0 (.Pass ⟨0, 0, 0, 0⟩) with
  | .ClassDef _ _ _ body .. => body
  | _ => []
noncomputable def kFd (i : Nat) (cl : List (Str × Addr)) (cd ct : Value) : FuncData := match kBody.getD i (.Pass ⟨0, 0, 0, 0⟩) with
  | .FunctionDef name args body _ _ _ scope _ _ _ => { name, qualname := "cmp_to_key.<locals>.K." ++ name, params := args, body := .stmts body, scope, globals := 3, closure := cl, defaults := .none, kwdefaults := .none, pyModule := .str "law_mg0026_01" 252, code := cd, closureTuple := ct }
  | _ => default
noncomputable def kFn (i : Nat) (cl : List (Str × Addr)) (cd ct : Value) : Obj := { cls := .type "function", data := .func (kFd i cl cd ct) }
noncomputable def ri (n : Nat) : Value := .int (Int.ofNat n) 0
noncomputable def kCode (nm : Str) (ln t1 t2 t3 a : Nat) : Obj := { cls := .type "code", data := .fields #[.str nm t1, .str ("cmp_to_key.<locals>.K." ++ nm) (t1 + 1), .str "/claim/cut.py" (t1 + 2), ri ln, ri 2, ri 0, ri 0, ri 19, .ref a, .bool true, ri 181, .ref (a + 1), .none, .ref (a + 2), .ref (a + 3), .ref (a + 4), ri t2, ri ln, .str "/claim/cut.py" t3] }
noncomputable def kHash (P : Params) (n : Str) : Int := PySem.W.ZFast.zw12210062019545310541 (P.strHash n.cps)
theorem kHash_eq (P : Params) (n : Str) (h : n.cps.isEmpty = false) : kHash P n = PyData.keyHash P n := by
  unfold kHash PyData.keyHash
  rw [h, ← PySem.W.ZFast.ze12210062019545310541]
  rfl
noncomputable def kEnt (P : Params) (n : Str) (t : Nat) (v : Value) : DictEntry := { hash := kHash P n, key := .str n t, val := v }
noncomputable def kNs (P : Params) (N t : Nat) : Obj := { cls := .type "dict", data := .dict #[kEnt P "__module__" (t + 8) (.str "cpy313.functools" (t + 13)), kEnt P "__firstlineno__" (t + 12) (.int 4 (t + 11)), kEnt P "__slots__" (t + 16) (.ref (N + 9)),
  kEnt P "__init__" (t + 24) (.ref (N + 16)), kEnt P "__lt__" (t + 33) (.ref (N + 24)), kEnt P "__gt__" (t + 42) (.ref (N + 32)), kEnt P "__eq__" (t + 51) (.ref (N + 40)), kEnt P "__le__" (t + 60) (.ref (N + 48)), kEnt P "__ge__" (t + 69) (.ref (N + 56)),
  kEnt P "__hash__" (t + 70) .none, kEnt P "__static_attributes__" (t + 72) (.ref (N + 57)), kEnt P "obj" (t + 74) (.ref (N + 61)), kEnt P "__doc__" (t + 75) .none] 3 }
noncomputable def kCls (N t : Nat) : Obj := ⟨.type "type", none, .cls { name := "K", bases := [.type "object"], mro := [.ref (N + 60), .type "object"], ns := N + 59, qualname := "cmp_to_key.<locals>.K", hasDict := false, slotNames := [Str.ofString "obj"] },
  #[some (.ref (N + 2)), none, some (.str "K" t), some (.str "cmp_to_key.<locals>.K" (t + 9)), some (.builtin "object.__new__"), some (.bool false)]⟩
noncomputable def kMem (N t : Nat) : Obj := { cls := .type "member_descriptor", data := .fields #[.str "obj" (t + 73), .ref (N + 60), .builtin "proto.slot", .builtin "proto.slot#set", ri 0] }
noncomputable def kCell : Obj := { cls := .type "cell", data := .cell (some (.ref 63)) }
structure KAt (P : Params) (h : Heap) (N t : Nat) : Prop where
  o1 : h.get? (N + 1) = some kCell
  o15 : h.get? (N + 15) = some (kCode "__init__" 8 (t + 17) (t + 22) (t + 23) (N + 10))
  o16 : h.get? (N + 16) = some (kFn 2 [] (.ref (N + 15)) .none)
  o23 : h.get? (N + 23) = some (kCode "__lt__" 11 (t + 25) (t + 31) (t + 32) (N + 18))
  o24 : h.get? (N + 24) = some (kFn 3 [("mycmp", N + 1)] (.ref (N + 23)) (.ref (N + 17)))
  o39 : h.get? (N + 39) = some (kCode "__eq__" 17 (t + 43) (t + 49) (t + 50) (N + 34))
  o40 : h.get? (N + 40) = some (kFn 5 [("mycmp", N + 1)] (.ref (N + 39)) (.ref (N + 33)))
  o59 : h.get? (N + 59) = some (kNs P N t)
  o60 : h.get? (N + 60) = some (kCls N t)
  o61 : h.get? (N + 61) = some (kMem N t)
open Classical in
noncomputable def myC (P : Prop) : ClaimW := { prog := PySem.Challenge.pw_mg0026_01, records := [], pre := fun _ => true, post := fun _ _ _ => decide P }
noncomputable def Out (P : Value → Shared → Prop) (s : Shared) (v : Value) (s' : Shared) : Prop := GoodWG (myC (P v s')) (fun _ => none) (fun _ => none) [] s (.ok (.ret (.bool true))) s'
theorem myC_true {P : Prop} (h : P) : (myC P).post [] (.bool true) [] = true := by simp [myC, h]
theorem Out.get {P : Value → Shared → Prop} {s : Shared} {v : Value} {s' : Shared} (h : Out P s v s') : P v s' ∧ OldK s.heap s'.heap := by
  obtain ⟨h1, h2, _⟩ := h
  refine ⟨?_, h2⟩
  rcases h1 with ⟨_, _, _, _, _, _, hp, _⟩ | ⟨_, _, _, e, _⟩
  · simpa [myC] using hp
  · cases e
noncomputable def PK (P : Params) (N : Nat) (s : Shared) (v : Value) (s' : Shared) : Prop := v = .ref (N + 60) ∧ KAt P s'.heap N s.toks ∧ (∀ b o, s.heap.get? b = some o → b ≠ 16 → s'.heap.get? b = some o) ∧ s'.gens = s.gens ∧ s'.drawn = s.drawn ∧ s'.os = s.os
theorem ch16 {ch : X.Ch} (e : ch.map (·.1) = [16]) {b : Addr} (hb : b ≠ 16) : X.chLook ch b = none := by
  cases ch with
  | nil => cases e
  | cons p l =>
    simp only [List.map_cons, List.cons.injEq] at e
    obtain ⟨e, e2⟩ := e
    have : Nat.beq p.1 b = false := by rw [e]; cases q : Nat.beq 16 b with | false => rfl | true => exact absurd (Nat.eq_of_beq_eq_true q).symm hb
    unfold X.chLook
    rw [this]
    cases l with
    | nil => rfl
    | cons => cases e2
end Mine
end
section
open PySem PySem.W PySem.W.X PySem.W.XRun PyProof.Rows
namespace Mine
set_option maxRecDepth 100000
set_option maxHeartbeats 0
structure FP where
  name : Str
  params : Arguments
  body : List Stmt
  scope : Scope
noncomputable def partsOf (x : Stmt) : FP := match x with
  | .FunctionDef name args body _ _ _ scope _ _ _ => ⟨name, args, body, scope⟩
  | _ => ⟨Str.empty, default, [], default⟩
noncomputable def fdOf (p : FP) (cl : List (Str × Addr)) (cd ct : Value) : FuncData := { name := p.name, qualname := "cmp_to_key.<locals>.K." ++ p.name, params := p.params, body := .stmts p.body, scope := p.scope, globals := 3, closure := cl, defaults := .none, kwdefaults := .none, pyModule := .str "law_mg0026_01" 252, code := cd, closureTuple := ct }
noncomputable def kInst (K d o : Addr) : Obj := ⟨.ref K, some d, .plain, #[some (.ref o)]⟩
noncomputable def NewOut (K o : Addr) (s : Shared) (v : Value) (s' : Shared) : Prop := ∃ i d, v = .ref i ∧ (∀ b o, s.heap.get? b = some o → s'.heap.get? b = some o) ∧ s.heap.get? i = none ∧ s'.heap.get? i = some (kInst K d o) ∧ s'.gens = s.gens ∧ s'.drawn = s.drawn ∧ s'.os = s.os
theorem memSt {h₀ h : Heap} {news : List (Addr × Obj)} (D : Mem h₀ h [] news) : ∀ b o, h₀.get? b = some o → h.get? b = some o := fun b o e => D.keep b o e (by simp [away])
theorem newOut {s : Shared} {h : Heap} {K o t p : Addr} {news : List (Addr × Obj)} {ob : Obj} (D : Mem s.heap h [] news) (n : Nat) (e : news[n]? = some (p, ob)) (d : Addr) (hob : ob = kInst K d o) : NewOut K o s (.ref p) ⟨h, s.gens, s.drawn, t, s.os⟩ :=
  ⟨p, d, rfl, memSt D, (D.nw _ (List.mem_of_getElem? e)).2, hob ▸ (D.nw _ (List.mem_of_getElem? e)).1, rfl, rfl, rfl⟩
local macro_rules | `(tactic| x_close) => `(tactic| exact newOut (by assumption) 1 rfl _ rfl)
theorem k_new0 : ∃ p : FP, partsOf (kBody.getD 2 (.Pass ⟨0, 0, 0, 0⟩)) = p ∧ ∀ {prog : Program} {w : World} {s : Shared} {o a2 a9 a10 a11 a12 a13 a14 a15 a16 a24 a32 a40 a48 a56 a57 a59 a60 a61 t0 t8 t9 t11 t12 t13 t16 t17 t18 t19 t22 t23 t24 t33 t42 t51 t60 t69 t70 t72 t73 t74 t75 : Nat} {E : Value → Shared → Prop}
  (o2 : s.heap.get? (nat_lit 2) = some ⟨.none, none, .dict #[] 0, #[]⟩)
  (o15 : s.heap.get? a15 = some { cls := .type "code", data := .fields #[.str "__init__" t17, .str ("cmp_to_key.<locals>.K." ++ ("__init__" : Str)) t18, .str "/claim/cut.py" t19, ri 8, ri 2, ri 0, ri 0, ri 19, .ref a10, .bool true, ri 181, .ref a11, .none, .ref a12, .ref a13, .ref a14, ri t22, ri 8, .str "/claim/cut.py" t23] })
  (o16 : s.heap.get? a16 = some { cls := .type "function", data := .func (fdOf p [] (.ref a15) .none) })
  (o59 : s.heap.get? a59 = some { cls := .type "dict", data := .dict #[kEnt w.params "__module__" t8 (.str "cpy313.functools" t13), kEnt w.params "__firstlineno__" t12 (.int 4 t11), kEnt w.params "__slots__" t16 (.ref a9),
  kEnt w.params "__init__" t24 (.ref a16), kEnt w.params "__lt__" t33 (.ref a24), kEnt w.params "__gt__" t42 (.ref a32), kEnt w.params "__eq__" t51 (.ref a40), kEnt w.params "__le__" t60 (.ref a48), kEnt w.params "__ge__" t69 (.ref a56),
  kEnt w.params "__hash__" t70 .none, kEnt w.params "__static_attributes__" t72 (.ref a57), kEnt w.params "obj" t74 (.ref a61), kEnt w.params "__doc__" t75 .none] 3 })
  (o60 : s.heap.get? a60 = some ⟨.type "type", none, .cls { name := "K", bases := [.type "object"], mro := [.ref a60, .type "object"], ns := a59, qualname := "cmp_to_key.<locals>.K", hasDict := false, slotNames := [Str.ofString "obj"] },
  #[some (.ref a2), none, some (.str "K" t0), some (.str "cmp_to_key.<locals>.K" t9), some (.builtin "object.__new__"), some (.bool false)]⟩)
  (o61 : s.heap.get? a61 = some { cls := .type "member_descriptor", data := .fields #[.str "obj" t73, .ref a60, .builtin "proto.slot", .builtin "proto.slot#set", ri 0] }),
  wpAny (model prog w) { handled := none, depth := 500, frames := none, guards := none, units := 1000 } (call (.ref a60) [.ref o]) (NewOut a60 o s) E s := by
  apply Exists.intro
  apply And.intro
  · conv => lhs; whnf
  intro prog w s o a2 a9 a10 a11 a12 a13 a14 a15 a16 a24 a32 a40 a48 a56 a57 a59 a60 a61 t0 t8 t9 t11 t12 t13 t16 t17 t18 t19 t22 t23 t24 t33 t42 t51 t60 t69 t70 t72 t73 t74 t75 E o2 o15 o16 o59 o60 o61
  x_run
theorem k_new {w : World} {s : Shared} {N t : Nat} {o : Addr} {E : Value → Shared → Prop}
  (o2 : s.heap.get? (nat_lit 2) = some ⟨.none, none, .dict #[] 0, #[]⟩) (KA : KAt w.params s.heap N t) :
  wpAny (model PySem.Challenge.pw_mg0026_01 w) { handled := none, depth := 500, frames := none, guards := none, units := 1000 } (call (.ref (N + 60)) [.ref o]) (NewOut (N + 60) o s) E s := by
  obtain ⟨p, hp, H⟩ := k_new0
  subst hp
  exact H (a2 := N + 2) o2 KA.o15 KA.o16 KA.o59 KA.o60 KA.o61
end Mine
end
section
open PySem PySem.W PySem.W.X PySem.W.XRun PyProof.Rows
namespace Mine
set_option maxRecDepth 100000
set_option maxHeartbeats 0
noncomputable def oList (items : Array Value) (e : Nat) : Obj := ⟨.type "list", none, .seq items e, #[]⟩
noncomputable def oCode : Obj := { cls := .type "code", data := .fields #[.str "_law_crosswise" 254, .str "_law_crosswise" 255, .str "/claim/cut.py" 256, ri 71, ri 2, ri 0, ri 0, ri 3, .ref 57, .bool true, ri 181, .ref 58, .none, .ref 59, .ref 60, .ref 61, ri 259, ri 71, .str "/claim/cut.py" 260] }
noncomputable def cross (n1 d1 n2 d2 : Int) : Int := n1 * d2 - n2 * d1
noncomputable def LtOut (b : Bool) (s : Shared) (v : Value) (s' : Shared) : Prop := v = .bool b ∧ (∀ b o, s.heap.get? b = some o → s'.heap.get? b = some o) ∧ s'.gens = s.gens ∧ s'.drawn = s.drawn ∧ s'.os = s.os
noncomputable def SlotOut (p : Addr) (s : Shared) (v : Value) (s' : Shared) : Prop := v = .ref p ∧ s'.heap = s.heap ∧ s'.gens = s.gens ∧ s'.drawn = s.drawn ∧ s'.os = s.os
theorem slotOut {s : Shared} {p t : Addr} : SlotOut p s (.ref p) ⟨s.heap, s.gens, s.drawn, t, s.os⟩ := ⟨rfl, rfl, rfl, rfl, rfl⟩
local macro_rules | `(tactic| x_close) => `(tactic| exact slotOut)
theorem slot0 {prog : Program} {w : World} {s : Shared} {k dd p tx a2 a9 a16 a24 a32 a40 a48 a56 a57 a59 a60 a61 t0 t8 t9 t11 t12 t13 t16 t24 t33 t42 t51 t60 t69 t70 t72 t73 t74 t75 : Nat} {E : Value → Shared → Prop}
  (ok : s.heap.get? k = some ⟨.ref a60, some dd, .plain, #[some (.ref p)]⟩)
  (o59 : s.heap.get? a59 = some { cls := .type "dict", data := .dict #[kEnt w.params "__module__" t8 (.str "cpy313.functools" t13), kEnt w.params "__firstlineno__" t12 (.int 4 t11), kEnt w.params "__slots__" t16 (.ref a9),
  kEnt w.params "__init__" t24 (.ref a16), kEnt w.params "__lt__" t33 (.ref a24), kEnt w.params "__gt__" t42 (.ref a32), kEnt w.params "__eq__" t51 (.ref a40), kEnt w.params "__le__" t60 (.ref a48), kEnt w.params "__ge__" t69 (.ref a56),
  kEnt w.params "__hash__" t70 .none, kEnt w.params "__static_attributes__" t72 (.ref a57), kEnt w.params "obj" t74 (.ref a61), kEnt w.params "__doc__" t75 .none] 3 })
  (o60 : s.heap.get? a60 = some ⟨.type "type", none, .cls { name := "K", bases := [.type "object"], mro := [.ref a60, .type "object"], ns := a59, qualname := "cmp_to_key.<locals>.K", hasDict := false, slotNames := [Str.ofString "obj"] },
  #[some (.ref a2), none, some (.str "K" t0), some (.str "cmp_to_key.<locals>.K" t9), some (.builtin "object.__new__"), some (.bool false)]⟩)
  (o61 : s.heap.get? a61 = some { cls := .type "member_descriptor", data := .fields #[.str "obj" t73, .ref a60, .builtin "proto.slot", .builtin "proto.slot#set", ri 0] }) :
  wpAny (model prog w) { handled := none, depth := 700, frames := none, guards := none, units := 3000 } (runValue (.builtin "proto.getattr_hooked" ⟨[.ref k, .str "obj" tx], []⟩)) (SlotOut p s) E s := by
  x_run
theorem kNs_ns0 {P : Params} {h : Heap} {N t : Nat} (e : h.get? (N + 59) = some (kNs P N t)) : ∃ m, h.Ns (N + 59) m ∧ m "__getattribute__" = none := by
  refine ⟨_, ⟨_, _, _, e, rfl, ?_, fun _ => rfl⟩, ?_⟩
  · intro x hx
    simp only [List.mem_toArray, List.mem_cons, List.not_mem_nil, or_false] at hx
    rcases hx with rfl | rfl | rfl | rfl | rfl | rfl | rfl | rfl | rfl | rfl | rfl | rfl | rfl <;> exact ⟨_, _, rfl⟩
  · rfl
theorem mro_obj : mroOf (.type "object") = pure [.type "object"] := by kernel_rfl
theorem lk_ga : typeLookup (.type "object") "__getattribute__" = pure (some (.builtin "object.__getattribute__")) := by rw [typeLookup_type, builtinLookup_eq_fast]; kernel_rfl
theorem getObj {prog : Program} {w : World} {A : Around} {s : Shared} {N t k dd p : Nat} {Q : Value → Shared → Prop} {E : Value → Shared → Prop} (R : Room A 700 3000) (KA : KAt w.params s.heap N t) (ok : s.heap.get? k = some (kInst (N + 60) dd p))
    (h : ∀ t', Q (.ref p) { s with toks := t' }) : wpAny (model prog w) A (getAttr (.ref k) "obj" true) Q E s := by
  obtain ⟨m, hn, hng⟩ := kNs_ns0 KA.o59
  obtain ⟨hp, g, d, tk, os⟩ := s
  have hC := KA.o60
  have okc : (kInst (N + 60) dd p).cls = .ref (N + 60) := rfl
  unfold getAttr getAttrBy
  repeat (first | (with_reducible refine wpAny_loadPart_at ok ?_; rw [okc]) | wp_step)
  refine wpAny_typeLookup_exc hC hn mro_obj lk_ga ?_
  rw [hng]
  repeat wp_step
  show wpAny _ _ ((runValue (.builtin "proto.getattr_hooked" ⟨[.ref k, .str "obj" tk], []⟩)).onRaise (noteIf true (.ref k) (.str "obj" tk))) _ _ _
  refine wpAny_onRaise (wpAny_max R (wpAny_mono (slot0 (s := ⟨hp, g, d, tk + 1, os⟩) (a2 := N + 2) ok KA.o59 KA.o60 KA.o61) (fun v s' hv => ?_) fun _ _ x => x))
  obtain ⟨e1, e2, e3, e4, e5⟩ := hv
  obtain ⟨hp', g', d', tk', os'⟩ := s'
  simp only at e1 e2 e3 e4 e5
  subst e1 e2 e3 e4 e5
  exact wpAny_pure (h tk')
theorem noLim {h : Heap} (o2 : h.get? (nat_lit 2) = some ⟨.none, none, .dict #[] 0, #[]⟩) : h.NoLimit :=
  ⟨fun _ => none, ⟨_, _, _, o2, rfl, fun e he => by simp at he, fun _ => rfl⟩, rfl⟩
theorem bind63 (pm a b : Value) : bindArgs (mkFd 9 62 pm) ⟨[a, b], []⟩ = pure [(("one" : Str), a), (("other" : Str), b)] := by rfl
theorem cross_spec {w : World} {A : Around} {s : Shared} {p1 p2 : Addr} {e3 e4 : Nat} {n1 n2 d1 d2 : Int} {tn1 tn2 td1 td2 : Tok} {Q : Value → Shared → Prop} {E : Value → Shared → Prop} (X : FnAt s.heap 63 9 62) (lim : s.heap.NoLimit) (R : Room A 650 2500)
    (op1 : s.heap.get? p1 = some (oList #[.int n1 tn1, .int d1 td1] e3)) (op2 : s.heap.get? p2 = some (oList #[.int n2 tn2, .int d2 td2] e4)) (hn1 : -100 ≤ n1) (hn1' : n1 ≤ 100) (hn2 : -100 ≤ n2) (hn2' : n2 ≤ 100)
    (h : ∀ h' t' t'', StIn s.heap h' → Q (.int (cross n1 d1 n2 d2) t'') { s with heap := h', toks := t' }) :
    wpAny (model PySem.Challenge.pw_mg0026_01 w) A (call (.ref 63) [.ref p1, .ref p2]) Q E s := by
  refine callFnX (n := 9) (cd := 62) X lim R (by omega) (bind63 · _ _) (by decide) rfl (fun _ => ⟨rfl, rfl, rfl, rfl⟩) ⟨rfl, rfl, rfl⟩ ?_
  intro pm h0 L hL ns0 k0 s0 R' E'
  have l1 : h0.IsList p1 _ := ⟨_, k0 _ _ op1, rfl, _, rfl⟩
  have l2 : h0.IsList p2 _ := ⟨_, k0 _ _ op2, rfl, _, rfl⟩
  refine wpAny_execs_cons (wpAny_Return_some (wpAny_BinOp (wpAny_BinOp (Subscript_ ?_))))
  refine ldc rfl rfl ns0 rfl ?_
  refine wpAny_Constant_int ?_
  refine item_listL (l := [_, _]) l1 (by omega) (by omega) rfl ?_
  refine Subscript_ ?_
  refine ldc rfl rfl ns0 rfl ?_
  refine wpAny_Constant_int ?_
  refine item_listL (l := [_, _]) l2 (by omega) (by omega) rfl ?_
  refine PyProof.Rows.mul_int ?_ (mulOk (by omega) (by omega))
  refine wpAny_BinOp (Subscript_ ?_)
  refine ldc rfl rfl ns0 rfl ?_
  refine wpAny_Constant_int ?_
  refine item_listL (l := [_, _]) l2 (by omega) (by omega) rfl ?_
  refine Subscript_ ?_
  refine ldc rfl rfl ns0 rfl ?_
  refine wpAny_Constant_int ?_
  refine item_listL (l := [_, _]) l1 (by omega) (by omega) rfl ?_
  refine PyProof.Rows.mul_int ?_ (mulOk (by omega) (by omega))
  refine PyProof.Rows.sub_int ?_
  exact h h0 _ _ k0
theorem ldFree {prog : Program} {w : World} {A : Around} {E : Value → Shared → Prop} {s : Shared} {env : Env} {x : Str} {pos : Pos} {c : Addr} {v : Value} {Q : Value → Shared → Prop} (hv : s.heap.IsCell c (some v)) (h : Q v s)
    (hk : env.scope.kind = .function := by rfl) (hl : env.kindOf x = some .free := by rfl) (hc : env.cells.lookup x = some c := by rfl) (hd : (x == ("__debug__" : Str)) = false := by decide) (hn : (x == ("__classdict__" : Str)) = false := by decide) :
    wpAny (model prog w) A (eval (.Name x pos) env) Q E s := wpAny_Name (wpAny_loadName_free hk hl hc hv h hn) hd
/-- K.__lt__, K.__eq__: mycmp(self.obj, other.obj) against nought -/
theorem kFun {w : World} {s : Shared} {N t k1 k2 p1 p2 dd1 dd2 f : Nat} {fd : FuncData} {e3 e4 : Nat} {n1 n2 d1 d2 : Int} {tn1 tn2 td1 td2 : Tok} {op : CmpOp} {b : Bool} {q1 q2 q3 q4 q5 q6 q7 q8 q9 : Pos} {kk : Nat} {o : Obj} {E : Value → Shared → Prop}
    (of : s.heap.get? f = some o) (hd : o.data = .func fd) (cr : s.heap.CodeRec fd.code fd.qualname) (lim : s.heap.NoLimit) (X : FnAt s.heap 63 9 62) (KA : KAt w.params s.heap N t)
    (ok1 : s.heap.get? k1 = some (kInst (N + 60) dd1 p1)) (ok2 : s.heap.get? k2 = some (kInst (N + 60) dd2 p2))
    (op1 : s.heap.get? p1 = some (oList #[.int n1 tn1, .int d1 td1] e3)) (op2 : s.heap.get? p2 = some (oList #[.int n2 tn2, .int d2 td2] e4)) (hn1 : -100 ≤ n1) (hn1' : n1 ≤ 100) (hn2 : -100 ≤ n2) (hn2' : n2 ≤ 100)
    (hb : bindArgs fd ⟨[.ref k1, .ref k2], []⟩ = pure [(("self" : Str), .ref k1), (("other" : Str), .ref k2)])
    (hbody : fd.body = .stmts [.Return (some (.Compare (.Call (.Name "mycmp" q1) [.Attribute (.Name "self" q2) "obj" q3, .Attribute (.Name "other" q4) "obj" q5] [] q6) [op] [.Constant (.int 0) kk q7] q8)) q9])
    (hco : fd.scope.isCoroutine = false) (hge : fd.scope.isGenerator = false) (hkd : fd.scope.kind = .function)
    (hcell : ∀ x ∈ fd.scope.names, x.2 ≠ .cell)
    (hs : fd.scope.names.lookup ("self" : Str) = some .local) (ho : fd.scope.names.lookup ("other" : Str) = some .local) (hm : fd.scope.names.lookup ("mycmp" : Str) = some .free)
    (hcl : fd.closure = [(("mycmp" : Str), N + 1)])
    (hop : ∀ (A : Around) (s : Shared) (t u : Tok) (Q E : Value → Shared → Prop), Q (.bool b) s → wpAny (model PySem.Challenge.pw_mg0026_01 w) A (compareOp op (.int (cross n1 d1 n2 d2) t) (.int 0 u)) Q E s)
    (hmk : behindInMarks op (.Constant (.int 0) kk q7) = false) :
    wpAny (model PySem.Challenge.pw_mg0026_01 w) { handled := none, depth := 600, frames := none, guards := none, units := 2000 } (call (.ref f) [.ref k1, .ref k2]) (LtOut b s) E s := by
  refine wpAny_call (codeAny_call_function (fd := fd) (by decide) of hd hco hge hbody cr ?_)
  rw [hb]
  refine wpAny_pure (wpAny_newFunctionEnv hcell ?_ (fun h0 ns0 w0 => ⟨lim.fresh _ w0, codeAny_func ?_⟩) hkd)
  · intro x hx
    simp only [List.mem_cons, List.not_mem_nil, or_false] at hx
    rcases hx with rfl | rfl
    · exact hs
    · exact ho
  have k0 : StIn s.heap h0 := fun b o e => w0.extBut b o (Nat.ne_of_lt (Heap.lt_size e)) (Heap.get?_push_of_some _ e)
  have c0 : h0.IsCell (N + 1) (some (.ref 63)) := ⟨_, k0 _ _ KA.o1, rfl⟩
  have KA0 : KAt w.params h0 N t := ⟨k0 _ _ KA.o1, k0 _ _ KA.o15, k0 _ _ KA.o16, k0 _ _ KA.o23, k0 _ _ KA.o24, k0 _ _ KA.o39, k0 _ _ KA.o40, k0 _ _ KA.o59, k0 _ _ KA.o60, k0 _ _ KA.o61⟩
  have R1 : Room ((({ handled := none, depth := 600, frames := none, guards := none, units := 2000 } : Around).mark none).deeper (newEnv fd.scope s.heap.objs.size fd.globals fd.closure (fd.qualname ++ ".<locals>.") (some f) fd.code none fd.builtins)) 601 2003 := Room.deeper (⟨rfl, by decide, by decide⟩ : Room _ 600 2000)
  refine wpAny_execs_cons (wpAny_Return_some (wpAny_Compare1 ?_ hmk))
  refine callF2 (a := 63) (fun Q hQ => ldFree c0 hQ hkd hm (by show List.lookup _ fd.closure = _; rw [hcl]; rfl)) ?_
  refine Attribute_name (ldl ns0 rfl ?_ hkd hs)
  refine getObj (R1.mono (by omega) (by omega)) KA0 (k0 _ _ ok1) (fun t1 => ?_)
  refine Attribute_name (ldl ns0 rfl ?_ hkd ho)
  refine getObj (R1.mono (by omega) (by omega)) KA0 (k0 _ _ ok2) (fun t2 => ?_)
  refine ⟨(X.keeps k0).here, ?_⟩
  refine cross_spec (X.keeps k0) (lim.keeps k0) (R1.mono (by omega) (by omega)) (k0 _ _ op1) (k0 _ _ op2) hn1 hn1' hn2 hn2' (fun h1 t3 t4 (k1 : StIn h0 h1) => ?_)
  refine wpAny_Constant_int ?_
  refine hop _ _ _ _ _ _ ?_
  exact ⟨rfl, k0.trans k1, rfl, rfl, rfl⟩
theorem k_fn {w : World} {h : Heap} {pm : Value} (of : h.get? (nat_lit 63) = some ⟨.type "function", none, .func (mkFd 9 62 pm), #[]⟩) (oc : h.get? (nat_lit 62) = some oCode) : FnAt h 63 9 62 :=
  ⟨⟨_, _, of, rfl⟩, 62, _, _, _, rfl, oc, rfl, rfl⟩
theorem k_eq {w : World} {s : Shared} {k1 k2 p1 p2 dd1 dd2 : Addr} {e3 e4 : Nat} {n1 n2 d1 d2 : Int} {tn1 tn2 td1 td2 : Tok} {pmC : Value} {E : Value → Shared → Prop} {N t : Nat}
  (o2 : s.heap.get? (nat_lit 2) = some ⟨.none, none, .dict #[] 0, #[]⟩) (KA : KAt w.params s.heap N t)
  (of : s.heap.get? (nat_lit 63) = some ⟨.type "function", none, .func (mkFd 9 62 pmC), #[]⟩) (oc : s.heap.get? (nat_lit 62) = some oCode)
  (ok1 : s.heap.get? k1 = some (kInst (N + 60) dd1 p1)) (ok2 : s.heap.get? k2 = some (kInst (N + 60) dd2 p2))
  (op1 : s.heap.get? p1 = some (oList #[.int n1 tn1, .int d1 td1] e3)) (op2 : s.heap.get? p2 = some (oList #[.int n2 tn2, .int d2 td2] e4))
  (hn1 : -100 ≤ n1) (hn1' : n1 ≤ 100) (hn2 : -100 ≤ n2) (hn2' : n2 ≤ 100) :
  wpAny (model PySem.Challenge.pw_mg0026_01 w) { handled := none, depth := 600, frames := none, guards := none, units := 2000 } (call (.ref (N + 40)) [.ref k1, .ref k2]) (LtOut (decide (cross n1 d1 n2 d2 = 0)) s) E s :=
  kFun KA.o40 rfl ⟨N + 39, _, _, _, rfl, KA.o39, rfl, rfl⟩ (noLim o2) (k_fn (w := w) of oc) KA ok1 ok2 op1 op2 hn1 hn1' hn2 hn2' rfl rfl rfl rfl rfl (fun x hx => (by decide : ∀ x ∈ (kFd 5 [] .none .none).scope.names, x.2 ≠ NameKind.cell) x hx) rfl rfl rfl rfl
    (fun A s t u Q E hq => PyProof.Rows.eq_int (by rw [show (cross n1 d1 n2 d2 == 0) = decide (cross n1 d1 n2 d2 = 0) from rfl]; exact hq)) rfl
theorem k_less {w : World} {s : Shared} {k1 k2 p1 p2 dd1 dd2 : Addr} {e3 e4 : Nat} {n1 n2 d1 d2 : Int} {tn1 tn2 td1 td2 : Tok} {pmC : Value} {E : Value → Shared → Prop} {N t : Nat}
  (o2 : s.heap.get? (nat_lit 2) = some ⟨.none, none, .dict #[] 0, #[]⟩) (KA : KAt w.params s.heap N t)
  (of : s.heap.get? (nat_lit 63) = some ⟨.type "function", none, .func (mkFd 9 62 pmC), #[]⟩) (oc : s.heap.get? (nat_lit 62) = some oCode)
  (ok1 : s.heap.get? k1 = some (kInst (N + 60) dd1 p1)) (ok2 : s.heap.get? k2 = some (kInst (N + 60) dd2 p2))
  (op1 : s.heap.get? p1 = some (oList #[.int n1 tn1, .int d1 td1] e3)) (op2 : s.heap.get? p2 = some (oList #[.int n2 tn2, .int d2 td2] e4))
  (hn1 : -100 ≤ n1) (hn1' : n1 ≤ 100) (hn2 : -100 ≤ n2) (hn2' : n2 ≤ 100) :
  wpAny (model PySem.Challenge.pw_mg0026_01 w) { handled := none, depth := 600, frames := none, guards := none, units := 2000 } (call (.ref (N + 24)) [.ref k1, .ref k2]) (LtOut (decide (cross n1 d1 n2 d2 < 0)) s) E s :=
  kFun KA.o24 rfl ⟨N + 23, _, _, _, rfl, KA.o23, rfl, rfl⟩ (noLim o2) (k_fn (w := w) of oc) KA ok1 ok2 op1 op2 hn1 hn1' hn2 hn2' rfl rfl rfl rfl rfl (fun x hx => (by decide : ∀ x ∈ (kFd 3 [] .none .none).scope.names, x.2 ≠ NameKind.cell) x hx) rfl rfl rfl rfl
    (fun A s t u Q E hq => PyProof.Rows.lt_int hq) rfl
end Mine
end
section
open PySem PySem.W PyProof.Rows
open AutoSeq1 (wpAny_loadPart')
namespace Mine
set_option maxRecDepth 100000
set_option maxHeartbeats 4000000
section
variable {prog : Program} {w : World} {A : Around} {s : Shared} {R : Result → Shared → Prop} {E : Value → Shared → Prop}
theorem ltTurn {l b : Addr} {i : Nat} {items items2 : Array Value} {n n2 : Nat} {x y : Value} (hl : s.heap.get? l = some (oList items n)) (hb : s.heap.get? b = some (oList items2 n2))
    (h1 : items[i]? = some x) (h2 : items2[i]? = some y)
    (h : wpAny (model prog w) A.in1 (eqBool x y) (fun e s' => if e = true then codeAny (model prog w) A (.builtin "list.__eq__.loop" ⟨[.ref l, .ref b, rawInt (i + 1 : Nat), rawInt 0], []⟩) R s'
      else (∀ a o, s.heap.get? a = some o → s'.heap.get? a = some o) ∧ wpAny (model prog w) A.in1 (richCompare .Lt x y) (fun v s'' => R (.ok (.ret v)) s'') (fun e s'' => R (.error e) s'') s') (fun e s' => R (.error e) s') s) :
    codeAny (model prog w) A (.builtin "list.__eq__.loop" ⟨[.ref l, .ref b, rawInt i, rawInt 0], []⟩) R s := by
  refine codeAny_builtin MeetsSeq3.entry_eq_loop ?_
  rw [Around.under_plainId MeetsSeq3.plain_eq_loop _]
  obtain ⟨hp, g, d, tk, os⟩ := s
  unfold oList at hl hb
  wp_walk using wpAny_loadPart' hl, wpAny_loadPart' hb
  have hi1 : items[((i : Nat) : Int).toNat]? = some x := by simpa using h1
  have hi2 : items2[((i : Nat) : Int).toNat]? = some y := by simpa using h2
  rw [hi1, hi2]
  refine wpAny_bind (wpAny_mono h (fun e s' he => ?_) fun _ _ z => z)
  have hc : ((i : Int) + 1) = ((i + 1 : Nat) : Int) := by push_cast; rfl
  obtain ⟨hp', g', d', tk', os'⟩ := s'
  cases e with
  | true =>
    rw [if_pos rfl] at he
    wp_walk
    rw [hc]
    exact ⟨plainId_quiet MeetsSeq3.plain_eq_loop _, he⟩
  | false =>
    rw [if_neg (by simp)] at he
    obtain ⟨k, he⟩ := he
    have hl' := k _ _ hl
    have hb' := k _ _ hb
    wp_walk using wpAny_loadPart' hl', wpAny_loadPart' hb'
    rw [hi1, hi2]
    exact wpAny_bind (wpAny_mono he (fun v s'' hv => wpAny_pure hv) fun _ _ z => z)
theorem ltEnd {l b : Addr} {i : Nat} {items items2 : Array Value} {n n2 : Nat} (hl : s.heap.get? l = some (oList items n)) (hb : s.heap.get? b = some (oList items2 n2))
    (h1 : items[i]? = none) (h2 : items2[i]? = none) (h : R (.ok (.ret (.bool (decide (items.size < items2.size))))) s) :
    codeAny (model prog w) A (.builtin "list.__eq__.loop" ⟨[.ref l, .ref b, rawInt i, rawInt 0], []⟩) R s := by
  refine codeAny_builtin MeetsSeq3.entry_eq_loop ?_
  rw [Around.under_plainId MeetsSeq3.plain_eq_loop _]
  obtain ⟨hp, g, d, tk, os⟩ := s
  unfold oList at hl hb
  wp_walk using wpAny_loadPart' hl, wpAny_loadPart' hb
  have hi1 : items[((i : Nat) : Int).toNat]? = none := by simpa using h1
  have hi2 : items2[((i : Nat) : Int).toNat]? = none := by simpa using h2
  rw [hi1, hi2]
  wp_walk using wpAny_loadPart' hl, wpAny_loadPart' hb
  exact h
theorem ltStart {l b : Addr} {items items2 : Array Value} {n n2 : Nat} (hl : s.heap.get? l = some (oList items n)) (hb : s.heap.get? b = some (oList items2 n2)) {Q : Value → Shared → Prop}
    (h : codeAny (model prog w) A (.builtin "list.__eq__.loop" ⟨[.ref l, .ref b, rawInt (0 : Nat), rawInt 0], []⟩) (wants Q E) s) :
    wpAny (model prog w) A (call (.builtin "list.__lt__") [.ref l, .ref b]) Q E s := by
  refine wpAny_call (codeAny_call_builtin F.slot_list_lt.plain F.entry_list_lt (F.slot_list_lt.check _ _ _ _ _ _ _ _ ⟨_, hl, rfl⟩ (F.args_list_lt_2 _ _) ?_))
  obtain ⟨hp, g, d, tk, os⟩ := s
  unfold oList at hl hb
  have f3 := AutoSeq1.sub_list_list
  wp_walk using wpAny_loadPart' hl, wpAny_loadPart' hb
  exact ⟨plainId_quiet MeetsSeq3.plain_eq_loop _, h⟩
end
theorem cmp_ofLt' {M : Model} {A : Around} {E : Value → Shared → Prop} {s : Shared} {a b : Value} {Q : Value → Shared → Prop} (h : wpAny M A (compareOp .Lt a b) Q E s) : wpAny M A (richCompare .Lt a b) Q E s := h
structure KBase (w : World) (h : Heap) (N t : Nat) : Prop where
  o2 : h.get? (nat_lit 2) = some ⟨.none, none, .dict #[] 0, #[]⟩
  ka : KAt w.params h N t
  of : ∃ pm, h.get? (nat_lit 63) = some ⟨.type "function", none, .func (mkFd 9 62 pm), #[]⟩
  oc : h.get? (nat_lit 62) = some oCode
theorem KAt.keeps {P : Params} {h h' : Heap} {N t : Nat} (x : KAt P h N t) (k : StIn h h') : KAt P h' N t :=
  ⟨k _ _ x.o1, k _ _ x.o15, k _ _ x.o16, k _ _ x.o23, k _ _ x.o24, k _ _ x.o39, k _ _ x.o40, k _ _ x.o59, k _ _ x.o60, k _ _ x.o61⟩
theorem KBase.keeps {w : World} {h h' : Heap} {N t : Nat} (x : KBase w h N t) (k : StIn h h') : KBase w h' N t :=
  ⟨k _ _ x.o2, x.ka.keeps k, let ⟨pm, e⟩ := x.of; ⟨pm, k _ _ e⟩, k _ _ x.oc⟩
structure Ent where
  n : Int
  d : Int
  j : Int
noncomputable def Ent.OK (a : Ent) : Prop := -100 ≤ a.n ∧ a.n ≤ 100 ∧ 1 ≤ a.d ∧ a.d ≤ 9
noncomputable def ltE (a b : Ent) : Bool := if cross a.n a.d b.n b.d = 0 then (if a.j = b.j then decide (a.n < b.n) else decide (a.j < b.j)) else decide (cross a.n a.d b.n b.d < 0)
noncomputable def KeyAt (h : Heap) (C k : Addr) (n d : Int) : Prop := ∃ p dd e tn td, h.get? k = some (kInst C dd p) ∧ h.get? p = some (oList #[.int n tn, .int d td] e)
noncomputable def EntAt (h : Heap) (C x : Addr) (a : Ent) : Prop := ∃ k e tj tm, h.get? x = some (oList #[.ref k, .int a.j tj, .int a.n tm] e) ∧ KeyAt h C k a.n a.d
theorem KeyAt.keeps {h h' : Heap} {C k : Addr} {n d : Int} (x : KeyAt h C k n d) (s : StIn h h') : KeyAt h' C k n d := let ⟨p, dd, e, tn, td, a, b⟩ := x; ⟨p, dd, e, tn, td, s _ _ a, s _ _ b⟩
theorem EntAt.keeps {h h' : Heap} {C x : Addr} {a : Ent} (y : EntAt h C x a) (s : StIn h h') : EntAt h' C x a := let ⟨k, e, tj, tm, b, c⟩ := y; ⟨k, e, tj, tm, s _ _ b, c.keeps s⟩
theorem kNs_ns {P : Params} {h : Heap} {N t : Nat} (e : h.get? (N + 59) = some (kNs P N t)) : ∃ m, h.Ns (N + 59) m ∧ m "__lt__" = some (.ref (N + 24)) ∧ m "__eq__" = some (.ref (N + 40)) := by
  refine ⟨_, ⟨_, _, _, e, rfl, ?_, fun _ => rfl⟩, ?_, ?_⟩
  · intro x hx
    simp only [List.mem_toArray, List.mem_cons, List.not_mem_nil, or_false] at hx
    rcases hx with rfl | rfl | rfl | rfl | rfl | rfl | rfl | rfl | rfl | rfl | rfl | rfl | rfl <;> exact ⟨_, _, rfl⟩
  · rfl
  · rfl
theorem lk_lt : typeLookup (.type "object") "__lt__" = pure (some (.builtin "object.__lt__")) := by rw [typeLookup_type, builtinLookup_eq_fast]; kernel_rfl
theorem lk_eq : typeLookup (.type "object") "__eq__" = pure (some (.builtin "object.__eq__")) := by rw [typeLookup_type, builtinLookup_eq_fast]; kernel_rfl
theorem own_lt {P : Params} {h : Heap} {N t k p dd : Nat} (ka : KAt P h N t) (hk : h.get? k = some (kInst (N + 60) dd p)) : h.OwnSpecial k (N + 60) (N + 24) "object" "__lt__" := by
  obtain ⟨m, hm, h1, h2⟩ := kNs_ns ka.o59
  exact ⟨_, _, _, _, _, _, _, _, _, _, _, _, _, _, _, _, _, _, _, _, _, hk, rfl, ka.o60, hm, h1, ka.o24, rfl, mro_obj, lk_lt⟩
theorem own_eq' {P : Params} {h : Heap} {N t k p dd : Nat} (ka : KAt P h N t) (hk : h.get? k = some (kInst (N + 60) dd p)) : h.OwnSpecial k (N + 60) (N + 40) "object" "__eq__" := by
  obtain ⟨m, hm, h1, h2⟩ := kNs_ns ka.o59
  exact ⟨_, _, _, _, _, _, _, _, _, _, _, _, _, _, _, _, _, _, _, _, _, hk, rfl, ka.o60, hm, h2, ka.o40, rfl, mro_obj, lk_eq⟩
noncomputable def nOK (n d : Int) : Prop := -100 ≤ n ∧ n ≤ 100 ∧ 1 ≤ d ∧ d ≤ 9
theorem LtOut.go {b : Bool} {s : Shared} {v : Value} {s' : Shared} {P : Value → Shared → Prop} (h : LtOut b s v s') (k : ∀ h' t', StIn s.heap h' → P (.bool b) { s with heap := h', toks := t' }) : P v s' := by
  obtain ⟨e1, e2, e3, e4, e5⟩ := h
  obtain ⟨hp, g, d, t, os⟩ := s'
  subst e1
  simp only at e3 e4 e5
  subst e3 e4 e5
  exact k hp t e2
section
variable {w : World} {A : Around} {s : Shared} {E : Value → Shared → Prop} {N t : Nat} {k1 k2 : Addr} {n1 d1 n2 d2 : Int}
theorem keyRich (op : CmpOp) (b : Bool) (fA : Addr) (sym : String) (f r : Str) (hop : cmpInfo op = (sym, f, r)) {p dd p2 dd2 : Addr} {C : Addr} (own : s.heap.OwnSpecial k1 C fA "object" f) (hk2 : s.heap.get? k2 = some (kInst C dd2 p2)) (R : Room A 600 2000)
    (hc : ∀ E : Value → Shared → Prop, wpAny (model PySem.Challenge.pw_mg0026_01 w) { handled := none, depth := 600, frames := none, guards := none, units := 2000 } (call (.ref fA) [.ref k1, .ref k2]) (LtOut b s) E s)
    {Q : Value → Shared → Prop} (h : ∀ h' t', StIn s.heap h' → Q (.bool b) { s with heap := h', toks := t' }) :
    wpAny (model PySem.Challenge.pw_mg0026_01 w) A (richCompare op (.ref k1) (.ref k2)) Q E s := by
  obtain ⟨hp, g, d, tk, os⟩ := s
  refine richCompare_own_same hop own hk2 rfl (by have := R.units; simp [cLine]; omega) ?_
  exact wpAny_max R (wpAny_mono (hc E) (fun v s' hv => hv.go (P := fun v s' => ∃ b, v = .bool b ∧ Q (.bool b) s') fun h' t' k => ⟨b, rfl, h h' t' k⟩) fun _ _ x => x)
theorem keyEq (KB : KBase w s.heap N t) (x : KeyAt s.heap (N + 60) k1 n1 d1) (y : KeyAt s.heap (N + 60) k2 n2 d2) (h1 : nOK n1 d1) (h2 : nOK n2 d2) (R : Room A 600 2000)
    {Q : Value → Shared → Prop} (h : ∀ h' t', StIn s.heap h' → Q (.bool (decide (cross n1 d1 n2 d2 = 0))) { s with heap := h', toks := t' }) :
    wpAny (model PySem.Challenge.pw_mg0026_01 w) A (richCompare .Eq (.ref k1) (.ref k2)) Q E s := by
  obtain ⟨p, dd, e, tn, td, a1, a2⟩ := x
  obtain ⟨p', dd', e', tn', td', b1, b2⟩ := y
  obtain ⟨pm, of⟩ := KB.of
  exact keyRich .Eq _ (N + 40) _ _ _ rfl (p := p) (dd := dd) (own_eq' KB.ka a1) b1 R (fun E => k_eq KB.o2 KB.ka of KB.oc a1 b1 a2 b2 h1.1 h1.2.1 h2.1 h2.2.1) h
theorem keyLt (KB : KBase w s.heap N t) (x : KeyAt s.heap (N + 60) k1 n1 d1) (y : KeyAt s.heap (N + 60) k2 n2 d2) (h1 : nOK n1 d1) (h2 : nOK n2 d2) (R : Room A 600 2000)
    {Q : Value → Shared → Prop} (h : ∀ h' t', StIn s.heap h' → Q (.bool (decide (cross n1 d1 n2 d2 < 0))) { s with heap := h', toks := t' }) :
    wpAny (model PySem.Challenge.pw_mg0026_01 w) A (richCompare .Lt (.ref k1) (.ref k2)) Q E s := by
  obtain ⟨p, dd, e, tn, td, a1, a2⟩ := x
  obtain ⟨p', dd', e', tn', td', b1, b2⟩ := y
  obtain ⟨pm, of⟩ := KB.of
  exact keyRich .Lt _ (N + 24) _ _ _ rfl (p := p) (dd := dd) (own_lt KB.ka a1) b1 R (fun E => k_less KB.o2 KB.ka of KB.oc a1 b1 a2 b2 h1.1 h1.2.1 h2.1 h2.2.1) h
theorem KeyAt.same {h : Heap} {C k : Addr} {n1 d1 n2 d2 : Int} (x : KeyAt h C k n1 d1) (y : KeyAt h C k n2 d2) : n1 = n2 ∧ d1 = d2 := by
  obtain ⟨p, dd, e, tn, td, a1, a2⟩ := x
  obtain ⟨p', dd', e', tn', td', b1, b2⟩ := y
  rw [a1] at b1
  simp only [kInst, Option.some.injEq, Obj.mk.injEq] at b1
  have hp : p = p' := by simpa using b1.2.2.2
  subst hp
  rw [a2] at b2
  simp only [oList, Option.some.injEq, Obj.mk.injEq] at b2
  have := b2.2.2.1
  simp at this
  exact ⟨this.1.1.1, this.1.2.1⟩
theorem keyEqB (KB : KBase w s.heap N t) (x : KeyAt s.heap (N + 60) k1 n1 d1) (y : KeyAt s.heap (N + 60) k2 n2 d2) (h1 : nOK n1 d1) (h2 : nOK n2 d2) (R : Room A 600 2000)
    {Q : Bool → Shared → Prop} (h : ∀ h' t', StIn s.heap h' → Q (decide (cross n1 d1 n2 d2 = 0)) { s with heap := h', toks := t' }) :
    wpAny (model PySem.Challenge.pw_mg0026_01 w) A (eqBool (.ref k1) (.ref k2)) Q E s := by
  unfold eqBool
  refine wpAny_holding ?_
  by_cases hk : k1 = k2
  · subst hk
    obtain ⟨rfl, rfl⟩ := x.same y
    rw [if_pos (by simp)]
    have e : cross n1 d1 n1 d1 = 0 := by unfold cross; omega
    rw [e] at h
    exact wpAny_bind (wpAny_rule (wpAny_pure (h s.heap s.toks (StIn.refl _))))
  · rw [if_neg (by simpa using hk)]
    refine wpAny_bind (keyEq KB x y h1 h2 R (fun h' t' k => ?_))
    exact wpAny_truthy_bool (h h' t' k)
theorem LtE {x y : Addr} {a b : Ent} (KB : KBase w s.heap N t) (X : EntAt s.heap (N + 60) x a) (Y : EntAt s.heap (N + 60) y b) (h1 : a.OK) (h2 : b.OK) (R : Room A 500 1000)
    {Q : Value → Shared → Prop} (h : ∀ h' t', StIn s.heap h' → Q (.bool (ltE a b)) { s with heap := h', toks := t' }) :
    wpAny (model PySem.Challenge.pw_mg0026_01 w) A (compareOp .Lt (.ref x) (.ref y)) Q E s := by
  obtain ⟨k, e, tj, tm, x1, x2⟩ := X
  obtain ⟨k', e', tj', tm', y1, y2⟩ := Y
  have Ri : Room A.in1 600 2000 := ⟨R.handled, by have := R.depth; show A.depth ≤ _; omega, by have := R.units; show A.units + 1 ≤ _; omega⟩
  refine cmp_ofLt (wpAny_richCompare_same_room ⟨_, x1, rfl⟩ ⟨_, y1, rfl⟩ F.slot_list_lt ?_ (by have := R.units; simp [cLine]; omega))
  refine ltStart x1 y1 ?_
  refine ltTurn x1 y1 rfl rfl ?_
  refine keyEqB KB x2 y2 h1 h2 Ri (fun h' t' kk => ?_)
  by_cases hc : cross a.n a.d b.n b.d = 0
  · rw [decide_eq_true hc, if_pos rfl]
    refine ltTurn (s := { s with heap := h', toks := t' }) (kk _ _ x1) (kk _ _ y1) rfl rfl ?_
    refine wpAny_eqBool_int ?_
    by_cases hj : a.j = b.j
    · rw [if_pos (by simpa using hj)]
      refine ltTurn (s := { s with heap := h', toks := t' }) (kk _ _ x1) (kk _ _ y1) rfl rfl ?_
      refine wpAny_eqBool_int ?_
      by_cases hn : a.n = b.n
      · rw [if_pos (by simpa using hn)]
        refine ltEnd (s := { s with heap := h', toks := t' }) (kk _ _ x1) (kk _ _ y1) rfl rfl ?_
        refine ⟨by simp, ?_⟩
        have e : ltE a b = false := by unfold ltE; rw [if_pos hc, if_pos hj]; simp; omega
        rw [e] at h
        exact h h' t' kk
      · rw [if_neg (by simpa using hn)]
        refine ⟨fun _ _ z => z, cmp_ofLt' (PyProof.Rows.lt_int ?_)⟩
        refine ⟨by simp, ?_⟩
        have e : ltE a b = decide (a.n < b.n) := by unfold ltE; rw [if_pos hc, if_pos hj]
        rw [e] at h
        exact h h' t' kk
    · rw [if_neg (by simpa using hj)]
      refine ⟨fun _ _ z => z, cmp_ofLt' (PyProof.Rows.lt_int ?_)⟩
      refine ⟨by simp, ?_⟩
      have e : ltE a b = decide (a.j < b.j) := by unfold ltE; rw [if_pos hc, if_neg hj]
      rw [e] at h
      exact h h' t' kk
  · rw [decide_eq_false hc, if_neg (by simp)]
    refine ⟨kk, keyLt (s := { s with heap := h', toks := t' }) (KB.keeps kk) (x2.keeps kk) (y2.keeps kk) h1 h2 Ri (fun h'' t'' k2 => ?_)⟩
    refine ⟨by simp, ?_⟩
    have e : ltE a b = decide (cross a.n a.d b.n b.d < 0) := by unfold ltE; rw [if_neg hc]
    rw [e] at h
    exact h h'' t'' (StIn.trans kk k2)
end
theorem cmpOK {w : World} {g : Heap} {N t : Nat} (KB : KBase w g N t) (ent : Addr → Ent) (S : Addr → Prop) (hS : ∀ x, S x → EntAt g (N + 60) x (ent x) ∧ (ent x).OK) : CmpOK w g (fun x y => ltE (ent x) (ent y)) S :=
  fun s A x y Q E k R hx hy h => LtE (KB.keeps k) ((hS x hx).1.keeps k) ((hS y hy).1.keeps k) (hS x hx).2 (hS y hy).2 R h
end Mine
end
section
open PySem PySem.W PyProof.Rows
namespace Mine
set_option maxRecDepth 100000
set_option maxHeartbeats 4000000
section
variable {prog : Program} {w : World} {A : Around} {E : Value → Shared → Prop} {s : Shared} {env : Env}
theorem drawList {it t : Addr} {items : Array Value} (hne : t ≠ it) : ∀ (n i : Nat) (s : Shared) (Q : List Value → Shared → Prop), s.heap.IsListIter it t i → s.heap.IsList t items → i + n ≤ items.size →
    (∀ h', h'.IsListIter it t (i + n) → Heap.SameBut it s.heap h' → Q ((items.toList.drop i).take n) { s with heap := h' }) → wpAny (model prog w) A (draw (.ref it) n) Q E s
  | 0, i, s, Q, hit, _, _, hQ => by
    show wpAny _ _ (pure []) Q E s
    exact wpAny_pure (by simpa using hQ s.heap hit (Heap.SameBut.refl ..))
  | n + 1, i, s, Q, hit, ht, hle, hQ => by
    have hlt : i < items.size := by omega
    show wpAny _ _ (pyNext (.ref it) >>= _) Q E s
    refine wpAny_bind (wpAny_pyNext_list_item hit ht (x := items[i]) (by simp [hlt]) fun h₁ hit₁ hs₁ => ?_)
    refine wpAny_bind (wpAny_holding (drawList hne n (i + 1) _ _ hit₁ (ht.extBut hs₁.extBut hne) (by omega) fun h₂ hit₂ hs₂ => wpAny_pure ?_))
    have hd : items.toList.drop i = items[i] :: items.toList.drop (i + 1) := by simp [List.drop_eq_getElem_cons, hlt]
    have := hQ h₂ (by rw [show i + (n + 1) = i + 1 + n by omega]; exact hit₂) (hs₁.trans hs₂)
    rw [hd, List.take_succ_cons] at this
    exact this
theorem unpackItemsL {t : Addr} {items : Array Value} {Q : List Value → Shared → Prop} (hh : A.handled = none) (ht : s.heap.IsList t items)
    (hQ : ∀ h', StIn s.heap h' → Q items.toList { s with heap := h' }) : wpAny (model prog w) A (unpackItems (.ref t) items.size none) Q E s := by
  have hlt : t ≠ s.heap.objs.size := by obtain ⟨o, ho, _⟩ := ht; exact Nat.ne_of_lt (Heap.lt_size ho)
  unfold unpackItems
  refine wpAny_bind ?_
  · unfold notIterableAtAll
    refine wpAny_bind (wpAny_specialOf ht.typeIs slot_list_iter.lookup ?_)
    refine wpAny_pure ?_
    simp only [Bool.false_eq_true, if_false]
    refine wpAny_bind (wpAny_holding (wpAny_pyIter_list ht ?_))
    refine wpAny_bind (wpAny_holding (drawList hlt items.size 0 _ _ ⟨_, Heap.get?_push_size _ rfl, rfl, rfl⟩ (ht.push _) (by omega) fun h₁ hit₁ hs₁ => ?_))
    have hall : List.take items.size (List.drop 0 items.toList) = items.toList := by
      rw [List.drop_zero]; exact List.take_of_length_le (by simp)
    rw [hall]
    rw [if_neg (by simp)]
    have ht₁ : h₁.IsList t items := (ht.push _).extBut hs₁.extBut hlt
    refine wpAny_bind (wpAny_holding (listEnd hh hit₁ ht₁ (by simp) fun h₂ he₂ _ => ?_))
    simp only [Option.isSome_none, Bool.false_eq_true, if_false]
    refine wpAny_pure (hQ h₂ fun b o e => ?_)
    have hb : b ≠ s.heap.objs.size := Nat.ne_of_lt (Heap.lt_size e)
    exact he₂ b o hb (hs₁.extBut b o hb (Heap.get?_push_of_some _ e))
theorem unpack3 {x y z : Str} {p1 p2 p3 pos : Pos} {kk} {l : Addr} {v1 v2 v3 : Value} {m : Str → Option Value} {Q : Unit → Shared → Prop} (hh : A.handled = none) (hl : s.heap.IsList l #[v1, v2, v3]) (hns : s.heap.Ns env.locals m)
    (hx : env.kindOf x = some .local) (hy : env.kindOf y = some .local) (hz : env.kindOf z = some .local)
    (hp : (env.scope.kind == .class || (env.scope.kind == .module && env.locals != env.globals)) = false)
    (h : ∀ h' t', h'.Ns env.locals (fun n => if n = z then some v3 else if n = y then some v2 else if n = x then some v1 else m n) → Heap.ExtBut env.locals s.heap h' → Q () { s with heap := h', toks := t' })
    (hs : assignEach [.Name x p1, .Name y p2, .Name z p3] env = [(false, assign (.Name x p1) env), (false, assign (.Name y p2) env), (false, assign (.Name z p3) env)] := by rfl) :
    wpAny (model prog w) A (assign (.Tuple [.Name x p1, .Name y p2, .Name z p3] kk pos) env (.ref l)) Q E s := by
  rw [arm_assign_Tuple]
  refine wpAny_bind (wpAny_standAt ?_)
  rw [hs]
  unfold unpack
  refine wpAny_bind (wpAny_holding (unpackItemsL (items := #[v1, v2, v3]) hh hl fun h1 k1 => ?_))
  show wpAny _ _ (assignInOrder [assign (.Name x p1) env, assign (.Name y p2) env, assign (.Name z p3) env] [v1, v2, v3]) _ _ _
  refine wpAny_bind (wpAny_holding (wpAny_assign_Name (wpAny_storeName_local hx (k1.ns hns) (fun h2 n2 w2 => ?_) hp)))
  refine wpAny_bind (wpAny_holding (wpAny_assign_Name (wpAny_storeName_local hy n2 (fun h3 n3 w3 => ?_) hp)))
  refine wpAny_bind (wpAny_holding (wpAny_assign_Name (wpAny_storeName_local hz n3 (fun h4 n4 w4 => ?_) hp)))
  refine wpAny_pure ?_
  exact h h4 _ n4 (fun b o hb e => w4.extBut b o hb (w3.extBut b o hb (w2.extBut b o hb (k1 b o e))))
theorem max2 {a b : Int} {t u : Tok} {Q : Value → Shared → Prop} (hh : A.handled = none)
    (h : ∀ h' tk t', StIn s.heap h' → Q (.int (max a b) t') { s with heap := h', toks := tk }) : wpAny (model prog w) A (call (.builtin "max") [.int a t, .int b u]) Q E s := by
  refine Flt.max_two_num hh (.int _ _) (.int _ _) fun h' tk k => ?_
  by_cases hc : a < b
  · have e : max a b = b := by omega
    have z := h h' tk u k
    rw [e] at z
    have c : Flt.ltV (.int a t) (.int b u) = true := by simp [Flt.ltV, hc]
    rw [c]; exact z
  · have e : max a b = a := by omega
    have z := h h' tk t k
    rw [e] at z
    have c : Flt.ltV (.int a t) (.int b u) = false := by simp [Flt.ltV, hc]
    rw [c]; exact z
theorem min2 {a b : Int} {t u : Tok} {Q : Value → Shared → Prop} (hh : A.handled = none)
    (h : ∀ h' tk t', StIn s.heap h' → Q (.int (min a b) t') { s with heap := h', toks := tk }) : wpAny (model prog w) A (call (.builtin "min") [.int a t, .int b u]) Q E s := by
  refine Flt.min_two_num hh (.int _ _) (.int _ _) fun h' tk k => ?_
  by_cases hc : b < a
  · have e : min a b = b := by omega
    have z := h h' tk u k
    rw [e] at z
    have c : Flt.ltV (.int b u) (.int a t) = true := by simp [Flt.ltV, hc]
    rw [c]; exact z
  · have e : min a b = a := by omega
    have z := h h' tk t k
    rw [e] at z
    have c : Flt.ltV (.int b u) (.int a t) = false := by simp [Flt.ltV, hc]
    rw [c]; exact z
end
theorem keyCall {w : World} {A : Around} {E : Value → Shared → Prop} {s : Shared} {env : Env} {f : Str} {p pos : Pos} {e1 : Expr} {N t : Nat} {Q : Value → Shared → Prop} (R : Room A 500 1000)
    (hn : ∀ Q, Q (.ref (N + 60)) s → wpAny (model PySem.Challenge.pw_mg0026_01 w) A (eval (.Name f p) env) Q E s)
    (h : wpAny (model PySem.Challenge.pw_mg0026_01 w) A (eval e1 env) (fun v s1 => ∃ o, v = .ref o ∧ KBase w s1.heap N t ∧ ∀ i dd h' t', StIn s1.heap h' → s1.heap.get? i = none → h'.get? i = some (kInst (N + 60) dd o) → Q (.ref i) { s1 with heap := h', toks := t' }) E s)
    (hs : starEach [e1] env = [(false, eval e1 env)] := by rfl) :
    wpAny (model PySem.Challenge.pw_mg0026_01 w) A (eval (.Call (.Name f p) [e1] [] pos) env) Q E s := by
  refine wpAny_Call_Name_kw (hn _ ?_)
  rw [hs]
  unfold callWith
  refine wpAny_bind (wpAny_holding (Calls.evalArgs_plain (Calls.spliced_cons (wpAny_mono h (fun v s1 h1 => Calls.spliced_nil ?_) fun _ _ x => x))))
  obtain ⟨o, rfl, KB, hq⟩ := h1
  refine wpAny_bind (wpAny_standAt ?_)
  obtain ⟨hp, g, d, tk, os⟩ := s1
  refine wpAny_bind (wpAny_keeperOf_exc KB.ka.o60 ?_)
  refine wpAny_bind ?_
  show wpAny _ _ (call (.ref (N + 60)) [.ref o]) _ _ _
  refine wpAny_max R (wpAny_mono (k_new KB.o2 KB.ka (E := E)) (fun v s2 hv => ?_) fun _ _ x => x)
  obtain ⟨i, dd, rfl, k, n, hi, e3, e4, e5⟩ := hv
  obtain ⟨hp', g', d', tk', os'⟩ := s2
  simp only at e3 e4 e5
  subst e3 e4 e5
  exact wpAny_bind (wpAny_holding (wpAny_point (wpAny_pure (hq i dd hp' tk' k n hi))))
end Mine
end
section
open PySem PySem.W PyProof.Rows
namespace Mine
set_option maxRecDepth 100000
set_option maxHeartbeats 4000000
theorem itemA {prog : Program} {w : World} {A : Around} {E : Value → Shared → Prop} {s : Shared} {value slice : Expr} {a : Addr} {l : List Value} {k : Int} {u : Tok} {x : Value} {Q : Value → Shared → Prop} (hl : s.heap.IsList a l.toArray)
    (h0 : 0 ≤ k) (hfit : k < 2 ^ 63) (hx : l[k.toNat]? = some x) (h : Q x s)
    (hs : subscripted slice false (.ref a) (.int k u) = operate [.ref a, .int k u] (getItem (.ref a) (.int k u)) := by with_unfolding_all rfl) :
    wpAny (model prog w) A (subscriptTail value slice (.ref a) (.int k u)) Q E s :=
  PySem.W.kba_turn (value' := PySem.Expr.Name (PySem.Str.ofString "_") ⟨0, 0, 0, 0⟩) (fun _ => rfl) (item_listL hl h0 hfit hx h hs)
theorem prodB {k b : Int} (h1 : -30 ≤ k) (h2 : k ≤ 30) (h3 : 1 ≤ b) (h4 : b ≤ 9) : -270 ≤ k * b ∧ k * b ≤ 270 := by
  have : b = 1 ∨ b = 2 ∨ b = 3 ∨ b = 4 ∨ b = 5 ∨ b = 6 ∨ b = 7 ∨ b = 8 ∨ b = 9 := by omega
  rcases this with rfl | rfl | rfl | rfl | rfl | rfl | rfl | rfl | rfl <;> omega
noncomputable def reach (bi bj k : Int) (ge : Bool) : Int := if ge then -((-k * bj).fdiv bi) else (k * bj).fdiv bi + 1
noncomputable def pTerm (rows : List Row) (i : Nat) (k : Int) (j : Nat) : Int :=
  min (rows.getD j row0).n (max 0 (reach (rows.getD i row0).b (rows.getD j row0).b k (decide (i ≤ j)) - (rows.getD j row0).f))
noncomputable def pUpto (rows : List Row) (i : Nat) (k : Int) : Nat → Int
  | 0 => 0
  | j + 1 => pUpto rows i k j + pTerm rows i k j
noncomputable def place (rows : List Row) (i : Nat) (k : Int) : Int := pUpto rows i k rows.length
theorem RowsOK.get {rows : List Row} (h : RowsOK rows) {j : Nat} (hj : j < rows.length) : (rows.getD j row0).OK := h.2.2 _ (by
  rw [List.getD_eq_getElem?_getD, List.getElem?_eq_getElem hj]; exact List.getElem_mem hj)
theorem bind77 (pm a b c : Value) : bindArgs (mkFd 11 76 pm) ⟨[a, b, c], []⟩ = pure [(("rows" : Str), a), (("i" : Str), b), (("k" : Str), c)] := by rfl
noncomputable def placeBody : List Stmt := match (fnBody 11).getD 1 (.Pass ⟨0, 0, 0, 0⟩) with
  | .For _ _ body .. => body
  | _ => []
theorem place_turn {w : World} {A : Around} {s : Shared} {f0 : Heap} {RA L it : Addr} {rows : List Row} {as : List Addr} {i j : Nat} {k pI ia ib : Int} {ti tk tp tj : Tok} {m : Str → Option Value} {pm : Value}
    {Q : Flow → Shared → Prop} {E : Value → Shared → Prop} (B : Base f0) (hh : A.handled = none) (F6 : Fz f0 s.heap [L, it]) (la : LOf f0 RA (refs as)) (lae : as.length = rows.length) (rin : ∀ i, i < as.length → RowAt f0 (as.getD i 0) (rows.getD i row0)) (hok : RowsOK rows) (hi : i < rows.length) (hk1 : -30 ≤ k) (hk2 : k ≤ 30)
    (itL : it ≠ L) (hlen : as.length ≤ 9) (hjl : j < as.length) (ns6 : s.heap.Ns L m) (m1 : m "rows" = some (.ref RA)) (m2 : m "i" = some (.int i ti)) (m3 : m "k" = some (.int k tk)) (m4 : m "place" = some (.int pI tp)) (mj : m "j" = some (.int (j : Nat) tj)) (hit6 : IsRangeIter s.heap it ia ib 1)
    (h : ∀ h' t' m' pI' tp', pI' = pI + pTerm rows i k j → Fz f0 h' [L, it] → h'.Ns L m' → IsRangeIter h' it ia ib 1 → m' "rows" = some (.ref RA) → m' "i" = some (.int i ti) → m' "k" = some (.int k tk) → m' "place" = some (.int pI' tp') → Q .next { s with heap := h', toks := t' }) :
    wpAny (model PySem.Challenge.pw_mg0026_01 w) A (execs placeBody (callEnv (mkFd 11 76 pm) L 77)) Q E s := by
  obtain ⟨ok1, ok2, ok3, ok4, ok5, ok6⟩ := hok.get (j := j) (by omega)
  obtain ⟨oi1, oi2, _⟩ := hok.get (j := i) (by omega)
  obtain ⟨tb, tf, tn, rj⟩ := rin j hjl
  obtain ⟨tb', tf', tn', ri⟩ := rin i (by omega)
  refine wpAny_execs_cons (Assign_Tuple (Subscript_ ?_))
  refine ldc rfl rfl ns6 m1 ?_
  refine ldc rfl rfl ns6 mj ?_
  refine item_listL (l := as.map Value.ref) (F6.st.lof la).isList (by omega) (by omega) (getD_ref hjl) ?_
  refine unpack3 hh (F6.st.lof rj).isList ns6 rfl rfl rfl rfl (fun h7 t7 ns7 w7 => ?_)
  have F7 : Fz f0 h7 [L, it] := F6.extBut (x := L) (by simp) w7
  have hit7 : IsRangeIter h7 it ia ib 1 := w7 it _ itL hit6
  generalize hrj : rows.getD j row0 = rwj at *
  generalize hri : rows.getD i row0 = rwi at *
  obtain ⟨pb1, pb2⟩ := prodB hk1 hk2 ok1 ok2
  obtain ⟨pc1, pc2⟩ := prodB (k := -k) (by omega) (by omega) ok1 ok2
  refine wpAny_execs_cons (wpAny_Assign_Name (wpAny_BinOp (wpAny_BinOp (wpAny_BinOp ?_))))
  refine ldc rfl rfl ns7 m3 ?_
  refine ldc rfl rfl ns7 rfl ?_
  refine PyProof.Rows.mul_int ?_ (mulOk (by omega) (by omega))
  refine Subscript_ (Subscript_ ?_)
  refine ldc rfl rfl ns7 m1 ?_
  refine ldc rfl rfl ns7 m2 ?_
  refine item_listL (l := as.map Value.ref) (F7.st.lof la).isList (by omega) (by omega) (getD_ref (by omega)) ?_
  refine wpAny_Constant_int ?_
  refine itemA (l := [_, _, _]) (F7.st.lof ri).isList (by omega) (by omega) rfl ?_
  refine floordiv_int (by omega) ?_ (Or.inl (PyProof.noPylong_small (by omega)))
  refine wpAny_Constant_int ?_
  refine PyProof.Rows.add_int ?_
  refine wpAny_storeName_local rfl ns7 (fun h8 ns8 w8 => ?_)
  have F8 : Fz f0 h8 [L, it] := F7.same (x := L) (by simp) w8
  have hit8 : IsRangeIter h8 it ia ib 1 := (w8.2 it itL).trans hit7
  refine wpAny_execs_cons (wpAny_mono (Q := fun f s'' => f = .next ∧ ∃ h' t' m', s'' = { s with heap := h', toks := t' } ∧ Fz f0 h' [L, it] ∧ h'.Ns L m' ∧ IsRangeIter h' it ia ib 1 ∧
    m' "rows" = some (.ref RA) ∧ m' "i" = some (.int i ti) ∧ m' "k" = some (.int k tk) ∧ m' "place" = some (.int pI tp) ∧ (∃ rI tr, rI = reach rwi.b rwj.b k (decide (i ≤ j)) ∧ m' "reached" = some (.int rI tr)) ∧
    m' "many" = some (.int rwj.n tn) ∧ m' "first" = some (.int rwj.f tf)) ?_ ?_ (fun _ _ x => x))
  · refine wpAny_If (wpAny_isTrue_Compare1 ?_)
    refine ldc rfl rfl ns8 mj ?_
    refine ldc rfl rfl ns8 m2 ?_
    refine PyProof.Rows.ge_int ?_
    refine wpAny_truthy_bool ?_
    by_cases hc : i ≤ j
    · rw [if_pos (by simp; omega)]
      refine wpAny_execs_cons (wpAny_Assign_Name (wpAny_UnaryOp (wpAny_BinOp (wpAny_BinOp (wpAny_UnaryOp ?_)))))
      refine ldc rfl rfl ns8 m3 ?_
      refine PyProof.Rows.neg_int ?_
      refine ldc rfl rfl ns8 rfl ?_
      refine PyProof.Rows.mul_int ?_ (mulOk (by omega) (by omega))
      refine Subscript_ (Subscript_ ?_)
      refine ldc rfl rfl ns8 m1 ?_
      refine ldc rfl rfl ns8 m2 ?_
      refine item_listL (l := as.map Value.ref) (F8.st.lof la).isList (by omega) (by omega) (getD_ref (by omega)) ?_
      refine wpAny_Constant_int ?_
      refine itemA (l := [_, _, _]) (F8.st.lof ri).isList (by omega) (by omega) rfl ?_
      refine floordiv_int (by omega) ?_ (Or.inl (PyProof.noPylong_small (by omega)))
      refine PyProof.Rows.neg_int ?_
      refine wpAny_storeName_local rfl ns8 (fun h9 ns9 w9 => ?_)
      refine wpAny_execs_nil ?_
      have e : -((-k * rwj.b).fdiv rwi.b) = reach rwi.b rwj.b k (decide (i ≤ j)) := by unfold reach; rw [if_pos (by simpa using hc)]
      exact ⟨rfl, h9, _, _, rfl, F8.same (x := L) (by simp) w9, ns9, (w9.2 it itL).trans hit8, m1, m2, m3, m4, ⟨_, _, e, rfl⟩, rfl, rfl⟩
    · rw [if_neg (by simp; omega)]
      refine wpAny_execs_nil ?_
      have e : (k * rwj.b).fdiv rwi.b + 1 = reach rwi.b rwj.b k (decide (i ≤ j)) := by unfold reach; rw [if_neg (by simpa using hc)]
      exact ⟨rfl, h8, _, _, rfl, F8, ns8, hit8, m1, m2, m3, m4, ⟨_, _, e, rfl⟩, rfl, rfl⟩
  · rintro f s'' ⟨rfl, h9, t9, m9, rfl, F9, ns9, hit9, n1, n2, n3, n4, ⟨rI, tr, hrI, n5⟩, n6, n7⟩
    refine wpAny_execs_cons (wpAny_AugAssign_Name ?_)
    refine wpAny_loadName_local rfl rfl ns9 n4 ?_
    refine callB2 (id := "min") (fun Q hQ => ldB B F9.st (fun _ x => by simp only [globsAre] at x; simp [x]) (fun _ x => by simp only [bltsAre] at x; simp [x]) hQ) ?_
    refine ldc rfl rfl ns9 n6 ?_
    refine callB2 (id := "max") (fun Q hQ => ldB B F9.st (fun _ x => by simp only [globsAre] at x; simp [x]) (fun _ x => by simp only [bltsAre] at x; simp [x]) hQ) ?_
    refine wpAny_Constant_int ?_
    refine wpAny_BinOp ?_
    refine ldc rfl rfl ns9 n5 ?_
    refine ldc rfl rfl ns9 n7 ?_
    refine PyProof.Rows.sub_int ?_
    refine max2 hh (fun h10 tk10 t10 (k10 : StIn h9 h10) => ?_)
    refine min2 hh (fun h11 tk11 t11 (k11 : StIn h10 h11) => ?_)
    have k911 := k10.trans k11
    refine PyProof.Rows.iadd_int ?_
    refine wpAny_storeName_local rfl (k911.ns ns9) (fun h12 ns12 w12 => ?_)
    refine wpAny_execs_nil ?_
    have e : pI + min rwj.n (max 0 (rI - rwj.f)) = pI + pTerm rows i k j := by simp only [pTerm, hrj, hri]; rw [hrI]
    exact h h12 _ _ _ _ e ((F9.ext k911).same (x := L) (by simp) w12) ns12 ((w12.2 it itL).trans (k911 _ _ hit9)) n1 n2 n3 rfl
theorem place_spec {w : World} {A : Around} {s : Shared} {g : Heap} {RA : Addr} {rows : List Row} {i : Nat} {k : Int} {ti tk : Tok}
    {Q : Value → Shared → Prop} {E : Value → Shared → Prop} (B : Base g) (R : Room A 380 390) (hg : StIn g s.heap) (hr : RowsAt s.heap RA rows) (hok : RowsOK rows) (hi : i < rows.length) (hk1 : -30 ≤ k) (hk2 : k ≤ 30)
    (h : ∀ h' t' t'', StIn s.heap h' → Q (.int (place rows i k) t'') { s with heap := h', toks := t' }) :
    wpAny (model PySem.Challenge.pw_mg0026_01 w) A (call (.ref 77) [.ref RA, .int i ti, .int k tk]) Q E s := by
  refine callFnX (n := 11) (cd := 76) (B.f77.keeps hg) (B.lim.keeps hg) R (by omega) (bind77 · _ _ _) (by decide) rfl (fun _ => ⟨rfl, rfl, rfl, rfl⟩) ⟨rfl, rfl, rfl⟩ ?_
  intro pm h0 L hL ns0 k0 s0 R' E'
  have nL : s.heap.get? L = none := fresh_none (by omega)
  obtain ⟨as, la, lae, rin⟩ := hr
  have hlen : as.length ≤ 9 := by rw [lae]; exact hok.2.1
  have hRL : RA ≠ L := by obtain ⟨o, ho⟩ := la.get; exact ne_of_none ho nL
  have B' := B.keeps hg
  refine wpAny_execs_cons (wpAny_Assign_Name (wpAny_Constant_int ?_))
  refine wpAny_storeName_local rfl ns0 (fun h1 ns1 w1 => ?_)
  have k1 : StIn s.heap h1 := k0.same nL w1
  refine wpAny_execs_cons (wpAny_For ?_)
  refine callT1 (T := "range") (fun Q hQ => ldB B' k1 (fun _ x => by simp only [globsAre] at x; simp [x]) (fun _ x => by simp only [bltsAre] at x; simp [x]) hQ) ?_
  refine callB1 (id := "len") (fun Q hQ => ldB B' k1 (fun _ x => by simp only [globsAre] at x; simp [x]) (fun _ x => by simp only [bltsAre] at x; simp [x]) hQ) ?_
  refine ldc rfl rfl ns1 rfl ?_
  refine len_list (k1.lof la).isList (by rw [refs_size]; omega) ?_
  rw [refs_size]
  refine rangeIt (by omega) (by omega) (fun it h2 t2 (k2 : StIn h1 h2) (s2 : h2.objs.size = h1.objs.size + 2) (n2 : h1.get? it = none) hit2 => ?_)
  have itL : it ≠ L := by obtain ⟨o, ho⟩ := Ns_get ns1; exact (ne_of_none (a := L) ho n2).symm
  have nit : s.heap.get? it = none := k1.none n2
  refine codeAny_forLoop (fun n s' => ∃ j h' t' m', s' = { s with heap := h', toks := t' } ∧ n = as.length - j ∧ j ≤ as.length ∧ Fz s.heap h' [L, it] ∧ h'.Ns L m' ∧
     m' "rows" = some (.ref RA) ∧ m' "i" = some (.int i ti) ∧ m' "k" = some (.int k tk) ∧ (∃ pI tp, pI = pUpto rows i k j ∧ m' "place" = some (.int pI tp)) ∧ ∃ a b : Int, a = j ∧ b = (as.length : Int) - j ∧ IsRangeIter h' it a b 1) ?_ as.length ?_
  · rintro n s' ⟨j, h', t', m', rfl, rfl, hj, F', ns', m1, m2, m3, ⟨pI, tp, hpI, m4⟩, a, b, ea, eb, hit'⟩
    by_cases hir : j = as.length
    · refine rangeEnd R'.handled hit' (by omega) (fun h5 k5 (s5 : h5.objs.size = h'.objs.size + 2) => ?_)
      refine wpAny_execs_nil ?_
      refine wpAny_execs_cons (wpAny_Return_some ?_)
      have F5 := F'.extBut (x := it) (by simp) k5
      refine ldc rfl rfl (ns'.extBut k5 itL.symm) m4 ?_
      have e : pI = place rows i k := by unfold place; rw [hpI, hir, lae]
      subst e
      exact h h5 t' _ F5.st
    · have hjl : j < as.length := by omega
      refine wpAny_pyNext_range_item hit' (by omega) (fun h5 hit5 k5 => ?_)
      have F5 := F'.same (x := it) (by simp) k5
      refine wpAny_assign_Name (wpAny_storeName_local rfl (ns'.sameBut k5 itL.symm) (fun h6 ns6 w6 => ?_))
      have F6 : Fz s.heap h6 [L, it] := F5.same (x := L) (by simp) w6
      have hit6 : IsRangeIter h6 it (a + 1) (b - 1) 1 := (w6.2 it itL).trans hit5
      subst ea
      refine place_turn (s := { s with heap := h6, toks := _ }) (j := j) B' R'.handled F6 la lae rin hok hi hk1 hk2 itL hlen hjl ns6 m1 m2 m3 m4 rfl hit6 (fun h7 t7 m7 pI' tp' epI F7 ns7 hit7 n1 n2 n3 n4 => ?_)
      exact ⟨as.length - (j + 1), by omega, j + 1, h7, t7, m7, rfl, rfl, by omega, F7, ns7, n1, n2, n3, ⟨pI', tp', by rw [epI, hpI]; rfl, n4⟩, ↑j + 1, b - 1, by omega, by omega, hit7⟩
  · exact ⟨0, h2, t2, _, rfl, rfl, by omega, ⟨k1.trans k2, fun x hx => by
      simp only [List.mem_cons, List.not_mem_nil, or_false] at hx
      rcases hx with rfl | rfl
      · exact nL
      · exact nit⟩, k2.ns ns1, rfl, rfl, rfl, ⟨_, _, rfl, rfl⟩, 0, as.length, rfl, by omega, hit2⟩
end Mine
end
section
open PySem PySem.W PyProof.Rows
namespace Mine
set_option maxRecDepth 100000
set_option maxHeartbeats 4000000
section
variable {prog : Program} {w : World} {A : Around} {E : Value → Shared → Prop} {s : Shared} {env : Env} {R : Result → Shared → Prop}
theorem compLoopT {elt target iter : Expr} {scope : Scope} {pos : Pos} {it acc : Value} {env : Env} (I : Nat → Shared → Prop)
    (turn : ∀ n s, I n s → wpAny (model prog w) A (pyNext it) (fun r s₁ => match r with
      | none => R (.ok .next) s₁
      | some v => wpAny (model prog w) A (letOwnedTupleGo target it v) (fun _ s₁' => wpAny (model prog w) A (assign target env v) (fun _ s₂ => wpAny (model prog w) A (eval elt env) (fun x s₃ =>
          wpAny (model prog w) A (call (.builtin "list.append") [acc, x]) (fun _ s₄ => ∃ m, m < n ∧ I m s₄) (notedBy (model prog w) A env fun e s' => R (.error e) s') s₃)
          (notedBy (model prog w) A env fun e s' => R (.error e) s') s₂) (notedBy (model prog w) A env fun e s' => R (.error e) s') s₁') (notedBy (model prog w) A env fun e s' => R (.error e) s') s₁) (notedBy (model prog w) A env fun e s' => R (.error e) s') s)
    (n : Nat) (h : I n s) :
    codeAny (model prog w) A (.compLoop (.ListComp elt [⟨target, iter, [], 0⟩] scope pos) 0 it acc env) R s := by
  refine codeAny_loop rfl I (fun n s hI => ?_) n h
  show wpAny _ _ ((compTurn (.ListComp elt [⟨target, iter, [], 0⟩] scope pos) 0 it acc env).onRaise (fun x => do noteFrame x env; theTreesLotGoes x)) _ _ s
  refine wpAny_noted ?_
  rw [compTurn_list1]
  refine wpAny_bind (wpAny_standAt (wpAny_bind (wpAny_mono (turn n s hI) (fun r s₁ h₁ => ?_) fun _ _ h' => h')))
  cases r with
  | none => exact wpAny_pure h₁
  | some v =>
    refine wpAny_bind (wpAny_mono h₁ (fun _ s₁' h₁' => ?_) fun _ _ h' => h')
    exact wpAny_bind (wpAny_mono h₁' (fun _ s₂ h₂ => wpAny_bind (wpAny_bind (wpAny_mono h₂ (fun x s₃ h₃ => wpAny_bind (wpAny_mono h₃
      (fun _ s₄ h₄ => wpAny_pure (wpAny_pure ⟨rfl, h₄⟩)) fun _ _ h' => h')) fun _ _ h' => h'))) fun _ _ h' => h')
theorem Fz.mk3 {f h : Heap} {a b c : Addr} (st : StIn f h) (h1 : f.get? a = none) (h2 : f.get? b = none) (h3 : f.get? c = none) : Fz f h [a, b, c] := ⟨st, fun x hx => by
  simp only [List.mem_cons, List.not_mem_nil, or_false] at hx
  rcases hx with rfl | rfl | rfl <;> assumption⟩
theorem listCompU {elt target iter : Expr} {scope : Scope} {pos : Pos} {cl : List (Str × Addr)} {y : Str} {py spos : Pos} {Q : Flow → Shared → Prop}
    (hclos : closureFor scope env = pure cl) (hcell : ∀ y ∈ scope.names, y.2 ≠ .cell) (hkind : scope.kind = .function) (hnames : ∀ x ∈ scope.names, x.2 = .local → scope.names.lookup x.1 = some .local)
    (h : wpAny (model prog w) A (eval iter env) (fun x s1 => wpAny (model prog w) A (pyIter x) (fun it s2 => ∀ D C h3, D = s2.heap.objs.size → C = D + 1 → StIn s2.heap h3 → h3.objs.size = s2.heap.objs.size + 2 → LOf h3 D #[] → h3.Ns C (fun _ => none) →
      (∀ Q E, Q it { s2 with heap := h3 } → wpAny (model prog w) A (pyIter it) Q E { s2 with heap := h3 }) ∧
      codeAny (model prog w) A (.compLoop (.ListComp elt [⟨target, iter, [], 0⟩] scope pos) 0 it (.ref D) (compEnvC scope cl C env))
        (fun r s' => r = .ok .next ∧ wpAny (model prog w) A (assign (.Name y py) env (.ref D)) (fun _ s'' => ∃ m, s''.heap.Ns C m ∧ ∀ h', Heap.SameBut C s''.heap h' → Q .next { s'' with heap := h' }) E s') { s2 with heap := h3 }) E s1) E s)
    (hs : ∀ x, foldedSetIterable iter env x = pure x := by intro _; rfl)
    (hsw : swapsWith (.ListComp elt [⟨target, iter, [], 0⟩] scope pos) (some (.Name y py)) spos.line env = pure true := by rfl) :
    wpAny (model prog w) A (exec (.Assign [.Name y py] (.ListComp elt [⟨target, iter, [], 0⟩] scope pos) spos) env) Q E s := by
  rw [exec_Assign_Name_used _ _ _ _ hsw]
  refine wpAny_bind (wpAny_standAt (wpAny_bind ?_))
  show wpAny _ _ (comprehension (.ListComp elt [⟨target, iter, [], 0⟩] scope pos) scope env (firstIterPos [⟨target, iter, [], 0⟩] pos) (newList []) (firstAsync [⟨target, iter, [], 0⟩]) (firstIter [⟨target, iter, [], 0⟩] env) (some (assign (.Name y py) env)) >>= fun _ => pure ()) _ _ _
  refine wpAny_bind ?_
  refine wpAny_comprehension_free (use := some (assign (.Name y py) env)) (Q := fun _ s' => wpAny (model prog w) A (pure ()) (fun _ s'' => wpAny (model prog w) A (pure Flow.next) Q E s'') E s') rfl hs hclos hkind hnames (wpAny_mono h (fun xv s1 h1 => wpAny_mono h1 (fun it s2 h2 => ?_) fun _ _ e => e) fun _ _ e => e)
  refine wpAny_newObj_type ?_ (by size_fits)
  refine wpAny_newFunctionEnv hcell (by intro y hy; simp at hy) (fun h3 ns3 w3 => ?_) hkind
  have kk : StIn s2.heap h3 := fun b o e => by
    have hb : b < s2.heap.objs.size := Heap.lt_size e
    refine (w3.2 b ?_).trans (Heap.get?_push_of_some _ (Heap.get?_push_of_some _ e))
    show b ≠ (s2.heap.push _).objs.size
    rw [Heap.size_push]; exact Nat.ne_of_lt (Nat.lt_succ_of_lt hb)
  have sz : h3.objs.size = s2.heap.objs.size + 2 := by rw [w3.1, Heap.size_push]; show (s2.heap.push _).objs.size + 1 = _; rw [Heap.size_push]
  have lo : LOf h3 s2.heap.objs.size #[] := by
    refine ⟨0, (w3.2 _ ?_).trans (Heap.get?_push_of_some _ (Heap.get?_push_size _ rfl))⟩
    show s2.heap.objs.size ≠ (s2.heap.push _).objs.size
    rw [Heap.size_push]; exact Nat.ne_of_lt (Nat.lt_succ_self _)
  have eC : ({ s2 with heap := s2.heap.push { cls := .type "list", data := .seq ([] : List Value).toArray } } : Shared).heap.objs.size = s2.heap.objs.size + 1 := Heap.size_push ..
  rw [eC] at ns3 ⊢
  obtain ⟨hre, hloop⟩ := h2 s2.heap.objs.size (s2.heap.objs.size + 1) h3 rfl rfl kk sz lo ns3
  have fin : codeAny (model prog w) A (.compLoop (.ListComp elt [⟨target, iter, [], 0⟩] scope pos) 0 it (.ref s2.heap.objs.size) (compEnvC scope cl (s2.heap.objs.size + 1) env))
      (compPost (model prog w) A E (some (assign (.Name y py) env)) (fun _ s' => wpAny (model prog w) A (pure ()) (fun _ s'' => wpAny (model prog w) A (pure Flow.next) Q E s'') E s') (.ref s2.heap.objs.size) (s2.heap.objs.size + 1)) { s2 with heap := h3 } := codeAny_mono hloop fun r s' hr => by
    obtain ⟨rfl, hq⟩ := hr
    exact wpAny_mono hq (fun _ s'' hz => let ⟨m, hm, hk⟩ := hz; ⟨m, hm, fun h' w' => wpAny_pure (wpAny_pure (hk h' w'))⟩) fun _ _ x => x
  exact codeAny_compStart_list fin (hre _ _ fin)
/-- a list comprehension over a range -/
theorem rangeCompU {elt iter : Expr} {x : Str} {px pos : Pos} {scope : Scope} {cl : List (Str × Addr)} {T : Nat} {y : Str} {py spos : Pos} {m0 : Str → Option Value} (Ps : Nat → Heap → Array Value → Prop) {Q : Flow → Shared → Prop} (hh : A.handled = none)
    (hclos : closureFor scope env = pure cl) (hcell : ∀ y ∈ scope.names, y.2 ≠ .cell) (hkind : scope.kind = .function) (hnames : ∀ x ∈ scope.names, x.2 = .local → scope.names.lookup x.1 = some .local)
    (hx : (relabel scope env).names.lookup x = some .local) (hT : T ≤ 1000)
    (h0 : Ps 0 s.heap #[]) (hmono : ∀ i f f' ys, Ps i f ys → StIn f f' → Ps i f' ys) (hsz : ∀ i f ys, Ps i f ys → ys.size = i)
    (hiter : wpAny (model prog w) A (eval iter env) (fun x s1 => wpAny (model prog w) A (pyIter x) (fun v s2 => ∃ it h2 t2, v = .ref it ∧ s2 = { s with heap := h2, toks := t2 } ∧ StIn s.heap h2 ∧ s.heap.get? it = none ∧ IsRangeIter h2 it 0 T 1) E s1) E s)
    (turn : ∀ i h2 t2 C m ys f ti, i < T → StIn f h2 → StIn s.heap f → Ps i f ys → h2.Ns C m → m x = some (.int (i : Nat) ti) → ∀ (Q' E' : Value → Shared → Prop),
      (∀ v h3 t3, StIn h2 h3 → (∀ f3, StIn f f3 → (∀ a o, h2.get? a = none → h3.get? a = some o → f3.get? a = some o) → Ps (i + 1) f3 (ys.push v)) → Q' v { s with heap := h3, toks := t3 }) →
      wpAny (model prog w) A (eval elt (compEnvC scope cl C env)) Q' E' { s with heap := h2, toks := t2 })
    (hn : s.heap.Ns env.locals m0) (hly : env.kindOf y = some .local) (hpy : (env.scope.kind == .class || (env.scope.kind == .module && env.locals != env.globals)) = false)
    (h : ∀ h' t' D ys f, Heap.ExtBut env.locals f h' → StIn s.heap f → f.get? D = none → s.heap.get? D = none → h'.Ns env.locals (fun n => if n = y then some (.ref D) else m0 n) → LOf h' D ys → Ps T f ys → Q .next { s with heap := h', toks := t' })
    (hs : ∀ x, foldedSetIterable iter env x = pure x := by intro _; rfl)
    (hsw : swapsWith (.ListComp elt [⟨.Name x px, iter, [], 0⟩] scope pos) (some (.Name y py)) spos.line env = pure true := by rfl) :
    wpAny (model prog w) A (exec (.Assign [.Name y py] (.ListComp elt [⟨.Name x px, iter, [], 0⟩] scope pos) spos) env) Q E s := by
  refine listCompU hclos hcell hkind hnames (wpAny_mono hiter (fun xv s1 h1 => wpAny_mono h1 (fun v s2 h2 => ?_) fun _ _ e => e) fun _ _ e => e) hs hsw
  obtain ⟨it, h2, t2, rfl, rfl, k2, n2, hit2⟩ := h2
  intro D C h3 (hD : D = h2.objs.size) (hC : C = D + 1) (k3 : StIn h2 h3) (s3 : h3.objs.size = h2.objs.size + 2) lo ns3
  have hit3 : IsRangeIter h3 it 0 T 1 := k3 _ _ hit2
  have itlt : it < h2.objs.size := Heap.lt_size hit2
  have nIC : it ≠ C := Nat.ne_of_lt (Nat.lt_of_lt_of_le itlt (by omega))
  have nID : it ≠ D := Nat.ne_of_lt (Nat.lt_of_lt_of_le itlt (by omega))
  have nDC : D ≠ C := by omega
  have nD : s.heap.get? D = none := k2.none (fresh_none (by omega))
  have nC : s.heap.get? C = none := k2.none (fresh_none (by omega))
  refine ⟨fun Q E hq => wpAny_pyIter_rangeiter hit3 hq, ?_⟩
  refine codeAny_compLoop_list (fun n s' => ∃ i h' t' m' ys f, s' = { s with heap := h', toks := t' } ∧ n = T - i ∧ i ≤ T ∧ Fz f h' [C, D, it] ∧ StIn s.heap f ∧ (∃ a b : Int, a = i ∧ b = (T : Int) - i ∧ IsRangeIter h' it a b 1) ∧
      LOf h' D ys ∧ h'.Ns C m' ∧ Ps i f ys) ?_ T ?_
  · rintro n s' ⟨i, h', t', m', ys, f, rfl, rfl, hi', F', sf, ⟨a, b, ea, eb, hit'⟩, hys, hC', hP⟩
    by_cases hir : i = T
    · refine rangeEnd hh hit' (by omega) fun h4 he4 (s4 : h4.objs.size = h'.objs.size + 2) => ?_
      have F4 := F'.extBut (x := it) (by simp) he4
      refine ⟨rfl, ?_⟩
      have sL : ∃ o, s.heap.get? env.locals = some o := Ns_get hn
      obtain ⟨oL, hoL⟩ := sL
      have nLC : env.locals ≠ C := ne_of_none hoL nC
      have nLD : env.locals ≠ D := ne_of_none hoL nD
      refine wpAny_assign_Name (wpAny_storeName_local hly ((sf.trans F4.st).ns hn) (fun h5 ns5 w5 => ?_) hpy)
      refine ⟨_, (hC'.extBut he4 nIC.symm).sameBut w5 nLC.symm, fun h6 w6 => ?_⟩
      subst hir
      exact h h6 _ D ys f (fun b o hb e => (w6.2 b (fun q => by rw [q, F'.no C (by simp)] at e; cases e)).trans (w5.extBut b o hb (F4.st b o e))) sf (F'.no D (by simp)) nD (ns5.sameBut w6 nLC) (((hys.ext he4 nID.symm).same w5 nLD.symm).same w6 nDC) hP
    · have hlt : i < T := by omega
      refine wpAny_pyNext_range_item hit' (by omega) fun h4 hit4 w4 => ?_
      refine wpAny_assign_Name (wpAny_storeName_local (env := compEnvC scope cl C env) hx (hC'.sameBut w4 nIC.symm) (fun h5 ns5 w5 => ?_) (by simp [compEnvC, relabel, hkind]))
      have F5 : Fz f h5 [C, D, it] := (F'.same (x := it) (by simp) w4).same (x := C) (by simp) w5
      have hys5 : LOf h5 D ys := (hys.same w4 nID.symm).same w5 nDC
      have hit5 : IsRangeIter h5 it (a + 1) (b - 1) 1 := (w5.2 it nIC).trans hit4
      subst ea
      refine turn i h5 _ C _ ys f _ hlt F5.st sf hP ns5 (by simp; rfl) _ _ (fun v h6 t6 (k6 : StIn h5 h6) hP6 => ?_)
      have hsy := hsz _ _ _ hP
      refine appL (k6.lof hys5) (by omega) (fun h7 l7 w7 => ?_)
      have F7 : Fz f h7 [C, D, it] := (F5.ext k6).same (x := D) (by simp) w7
      refine ⟨T - (i + 1), by omega, i + 1, h7, _, _, ys.push v, hideAll h7 [C, D, it], rfl, rfl, by omega, Fz.top _ _, sf.trans F7.grow, ⟨↑i + 1, b - 1, by omega, by omega, (w7.2 it nID).trans (k6 _ _ hit5)⟩, l7, (k6.ns ns5).sameBut w7 nDC.symm, ?_⟩
      refine hP6 _ F7.grow (fun a o ha ho => ?_)
      have aC : a ≠ C := by obtain ⟨o', ho'⟩ := Ns_get ns5; exact (ne_of_none (a := C) ho' ha).symm
      have aD : a ≠ D := by obtain ⟨o', ho'⟩ := hys5.get; exact (ne_of_none ho' ha).symm
      have aI : a ≠ it := (ne_of_none hit5 ha).symm
      exact hideAll_get _ ((w7.2 a aD).trans ho) (by simp [aC, aD, aI])
  · refine ⟨0, h3, _, _, #[], s.heap, rfl, rfl, by omega, Fz.mk3 (k2.trans k3) nC nD n2, StIn.refl _, ⟨0, T, rfl, by omega, hit3⟩, lo, ns3, h0⟩
end
end Mine
end
section
open PySem PySem.W PyProof.Rows
namespace Mine
set_option maxRecDepth 100000
set_option maxHeartbeats 4000000
noncomputable def total (rows : List Row) : Int := (rows.map (·.n)).sum
section
variable {prog : Program} {w : World} {A : Around} {E : Value → Shared → Prop} {s : Shared} {env : Env}
theorem rangeIt2 {a b : Int} {t u : Tok} {Q : Value → Shared → Prop} (h0 : a ≤ b) (ha : -1000 ≤ a) (h1 : b < 1000)
    (h : ∀ it h' t', StIn s.heap h' → s.heap.get? it = none → IsRangeIter h' it a (b - a) 1 → Q (.ref it) { s with heap := h', toks := t' }) :
    wpAny (model prog w) A (call (.type "range") [.int a t, .int b u]) (fun x s1 => wpAny (model prog w) A (pyIter x) Q E s1) E s := by
  refine call_range_2 (wpAny_pyIter_range (IsRange.new _ _ _ _ _ _ _) ?_ ?_)
  · exact small_one (by omega) (by omega) (by omega) (by omega)
  · have e : Builtin.Range.rangeSize a b 1 = b - a := by
      unfold Builtin.Range.rangeSize
      rw [if_pos (by decide)]
      split <;> omega
    rw [e]
    refine h _ _ _ (((StIn.refl _).push _).push _) (fresh_none ?_) (Heap.get?_push_size _ rfl)
    rw [Heap.size_push]; omega
theorem manyComp {y : Str} {p1 p2 p3 p4 p5 py pos : Pos} {kk} {scope : Scope} {RA : Addr} {rows : List Row} {m : Str → Option Value} {Q : Value → Shared → Prop} (hh : A.handled = none)
    (hclos : closureFor scope env = pure []) (hcell : ∀ y ∈ scope.names, y.2 ≠ .cell) (hkind : scope.kind = .function) (hnames : ∀ x ∈ scope.names, x.2 = .local → scope.names.lookup x.1 = some .local)
    (hx1 : (relabel scope env).names.lookup ("below" : Str) = some .local) (hx2 : (relabel scope env).names.lookup ("first" : Str) = some .local) (hx3 : (relabel scope env).names.lookup ("many" : Str) = some .local)
    (hr : RowsAt s.heap RA rows) (hok : RowsOK rows) (hn : s.heap.Ns env.locals m) (hv : m y = some (.ref RA)) (hky : env.scope.kind = .function) (hly : env.kindOf y = some .local) (hdy : (y == ("__debug__" : Str)) = false)
    (h : ∀ h' t' D ys, StIn s.heap h' → h'.IsList D ys → SmallInts 1000 ys → ys.toList.map iv = rows.map (·.n) → Q (.ref D) { s with heap := h', toks := t' }) :
    wpAny (model prog w) A (eval (.ListComp (.Name "many" p5) [⟨.Tuple [.Name "below" p1, .Name "first" p2, .Name "many" p3] kk p4, .Name y py, [], 0⟩] scope pos) env) Q E s := by
  obtain ⟨as, la, lae, rin⟩ := hr
  have hlen : as.length ≤ 9 := by rw [lae]; exact hok.2.1
  refine listComp hclos hcell hkind hnames ?_ (by intro _; rfl)
  refine ldl hn hv ?_ hky hly hdy
  refine wpAny_pyIter_list la.isList ?_
  intro D C h3 hD hC k3 s3 lo ns3
  have hI : (s.heap.push { cls := .type "list_iterator", data := .fields #[.ref RA, .int 0 0] }).IsListIter s.heap.objs.size RA 0 := ⟨_, Heap.get?_push_size _ rfl, rfl, rfl⟩
  have kI : StIn s.heap (s.heap.push { cls := .type "list_iterator", data := .fields #[.ref RA, .int 0 0] }) := (StIn.refl _).push _
  have sI : (s.heap.push { cls := .type "list_iterator", data := .fields #[.ref RA, .int 0 0] }).objs.size = s.heap.objs.size + 1 := Heap.size_push ..
  dsimp only at hD k3 s3
  generalize (s.heap.push { cls := .type "list_iterator", data := .fields #[.ref RA, .int 0 0] }) = h2 at sI hI kI hD k3 s3
  generalize hit : s.heap.objs.size = it at *
  have hI3 : h3.IsListIter it RA 0 := let ⟨o, e, r⟩ := hI; ⟨o, k3 _ _ e, r⟩
  have k03 := kI.trans k3
  have nIC : it ≠ C := by omega
  have nID : it ≠ D := by omega
  have nDC : D ≠ C := by omega
  have nit : s.heap.get? it = none := fresh_none (by omega)
  have nD : s.heap.get? D = none := fresh_none (by omega)
  have nC : s.heap.get? C = none := fresh_none (by omega)
  refine ⟨fun Q E hq => wpAny_pyIter_listiter hI3 hq, ?_⟩
  refine compLoopT (fun n s' => ∃ i h' t' m' ys, s' = { s with heap := h', toks := t' } ∧ n = as.length - i ∧ i ≤ as.length ∧ Fz s.heap h' [C, D, it] ∧ h'.IsListIter it RA i ∧
      LOf h' D ys ∧ h'.Ns C m' ∧ SmallInts 1000 ys ∧ ys.size = i ∧ ys.toList.map iv = (rows.take i).map (·.n)) ?_ as.length ?_
  · rintro n s' ⟨i, h', t', m', ys, rfl, rfl, hi', F', hit', hys, hC', hsm, hsz, hmap⟩
    have la' := (F'.st.lof la).isList
    by_cases hir : i = as.length
    · refine listEnd hh hit' la' (by simp [refs, hir]) fun h4 he4 (s4 : h4.objs.size = h'.objs.size + 2) => ?_
      have F4 := F'.extBut (x := it) (by simp) he4
      refine ⟨rfl, ⟨_, hC'.extBut he4 nIC.symm⟩, fun h5 w5 => ?_⟩
      refine h h5 _ D ys (F4.same (x := C) (by simp) w5).st ((hys.ext he4 nID.symm).same w5 nDC).isList hsm ?_
      rw [hmap, hir, lae, List.take_length]
    · have hlt : i < as.length := by omega
      refine wpAny_pyNext_list_item hit' la' (x := .ref (as.getD i 0)) (by simp [refs, List.getD_eq_getElem?_getD, hlt]) fun h4 hit4 w4 => ?_
      refine wpAny_letOwnedTupleGo_listiter hit4 ?_
      have F4 := F'.same (x := it) (by simp) w4
      obtain ⟨tb, tf, tn, ri⟩ := rin i hlt
      obtain ⟨ok1, ok2, ok3, ok4, ok5, ok6⟩ := hok.get (j := i) (by omega)
      refine unpack3 (env := compEnvC scope [] C env) hh (F4.st.lof ri).isList (hC'.sameBut w4 nIC.symm) hx1 hx2 hx3 (by simp [compEnvC, relabel, hkind]) (fun h5 t5 ns5 w5 => ?_)
      have F5 : Fz s.heap h5 [C, D, it] := F4.extBut (x := C) (by simp) w5
      refine ldl (v := .int (rows.getD i row0).n tn) ns5 (if_pos rfl) ?_ (by simp [compEnvC, relabel, hkind]) hx3
      have hys5 : LOf h5 D ys := (hys.same w4 nID.symm).ext w5 nDC
      refine appL hys5 (by omega) (fun h6 l6 w6 => ?_)
      have hit5 : h5.IsListIter it RA (i + 1) := let ⟨o, e, r⟩ := hit4; ⟨o, w5 _ _ nIC e, r⟩
      refine ⟨as.length - (i + 1), by omega, i + 1, h6, _, _, _, rfl, rfl, by omega, F5.same (x := D) (by simp) w6, ?_, l6, ns5.sameBut w6 nDC.symm, ?_, by simp [hsz], ?_⟩
      · obtain ⟨o, e, r⟩ := hit5
        exact ⟨o, (w6.2 _ nID).trans e, r⟩
      · intro v' hv'
        rw [Array.mem_push] at hv'
        rcases hv' with hv' | rfl
        · exact hsm v' hv'
        · exact ⟨_, _, rfl, by omega, by omega⟩
      · have hlr : i < rows.length := by omega
        rw [Array.toList_push, List.map_append, hmap, List.take_succ, List.getElem?_eq_getElem hlr, List.map_append]
        simp [iv, List.getD_eq_getElem?_getD, hlr]
  · exact ⟨0, h3, _, _, #[], rfl, by simp, by omega, Fz.mk3 k03 nC nD nit, hI3, lo, ns3, (fun v hv => by simp at hv), rfl, by simp⟩
end
theorem sum_le {l : List Int} {a b : Int} (h : ∀ x ∈ l, a ≤ x ∧ x ≤ b) : a * l.length ≤ l.sum ∧ l.sum ≤ b * l.length := by
  induction l with
  | nil => simp
  | cons x r ih =>
    have := ih (fun y hy => h y (List.mem_cons_of_mem _ hy))
    have := h x (List.mem_cons_self ..)
    simp only [List.sum_cons, List.length_cons, Int.natCast_succ, Int.mul_add, Int.mul_one]
    omega
theorem RowsOK.total {rows : List Row} (h : RowsOK rows) : 0 ≤ total rows ∧ total rows ≤ 45 := by
  have z := sum_le (l := rows.map (·.n)) (a := 0) (b := 5) (fun x hx => by
    obtain ⟨r, hr, rfl⟩ := List.mem_map.mp hx
    have := h.2.2 r hr
    simp only [Row.OK] at this
    omega)
  rw [List.length_map] at z
  have := h.2.1
  unfold Mine.total
  omega
end Mine
end
section
open PySem PySem.W PyProof.Rows
namespace Mine
set_option maxRecDepth 100000
set_option maxHeartbeats 4000000
theorem reach_self {b k : Int} (hb : b ≠ 0) : reach b b k true = k := by
  unfold reach
  rw [if_pos rfl, Int.mul_fdiv_cancel _ hb]; omega
theorem pTerm_range (rows : List Row) (i : Nat) (k : Int) (j : Nat) (hn : 0 ≤ (rows.getD j row0).n) : 0 ≤ pTerm rows i k j ∧ pTerm rows i k j ≤ (rows.getD j row0).n := by
  unfold pTerm; omega
theorem pTerm_self {rows : List Row} {i : Nat} {k : Int} (hb : 1 ≤ (rows.getD i row0).b) (h1 : (rows.getD i row0).f ≤ k) (h2 : k < (rows.getD i row0).f + (rows.getD i row0).n) : pTerm rows i k i = k - (rows.getD i row0).f := by
  unfold pTerm
  rw [decide_eq_true (Nat.le_refl i), reach_self (by omega)]
  omega
theorem sumTake_succ (rows : List Row) {j : Nat} (hj : j < rows.length) : ((rows.take (j + 1)).map (·.n)).sum = ((rows.take j).map (·.n)).sum + (rows.getD j row0).n := by
  rw [List.take_add_one, List.getElem?_eq_getElem hj, List.map_append, List.sum_append]
  simp [List.getD_eq_getElem?_getD, hj]
theorem pUpto_range {rows : List Row} (hok : RowsOK rows) {i : Nat} {k : Int} (h1 : (rows.getD i row0).f ≤ k) (h2 : k < (rows.getD i row0).f + (rows.getD i row0).n) :
    ∀ j, j ≤ rows.length → 0 ≤ pUpto rows i k j ∧ pUpto rows i k j ≤ ((rows.take j).map (·.n)).sum ∧ (i < j → pUpto rows i k j < ((rows.take j).map (·.n)).sum)
  | 0, _ => by simp [pUpto]
  | j + 1, hj => by
    obtain ⟨a, b, c⟩ := pUpto_range hok h1 h2 j (by omega)
    have o := hok.get (j := j) (by omega)
    simp only [Row.OK] at o
    have p := pTerm_range rows i k j (by omega)
    rw [sumTake_succ rows (by omega)]
    simp only [pUpto]
    refine ⟨by omega, by omega, fun hij => ?_⟩
    by_cases e : i = j
    · subst e
      rw [pTerm_self (by omega) h1 h2]
      omega
    · have := c (by omega); omega
theorem place_range {rows : List Row} (hok : RowsOK rows) {i : Nat} {k : Int} (hi : i < rows.length) (h1 : (rows.getD i row0).f ≤ k) (h2 : k < (rows.getD i row0).f + (rows.getD i row0).n) : 0 ≤ place rows i k ∧ place rows i k < total rows := by
  have z := pUpto_range hok h1 h2 rows.length (Nat.le_refl _)
  rw [List.take_length] at z
  exact ⟨z.1, z.2.2 hi⟩
abbrev El := Nat × Int
noncomputable def ElemAt (rows : List Row) (h : Heap) (a : Addr) (e : El) : Prop := ∃ t1 t2 t3, LOf h a #[.int e.2 t1, .int (rows.getD e.1 row0).b t2, .int (e.1 : Nat) t3]
theorem ElemAt.keeps {rows : List Row} {h h' : Heap} {a : Addr} {e : El} (x : ElemAt rows h a e) (k : StIn h h') : ElemAt rows h' a e := let ⟨a, b, c, e⟩ := x; ⟨a, b, c, k.lof e⟩
noncomputable def DueOK (rows : List Row) (h : Heap) (items : Array Value) (D : List (Option El)) : Prop := items.size = D.length ∧ ∀ (p : Nat) (e : El), D[p]? = some (some e) → ∃ a, items[p]? = some (Value.ref a) ∧ ElemAt rows h a e
theorem DueOK.keeps {rows : List Row} {h h' : Heap} {items : Array Value} {D : List (Option El)} (x : DueOK rows h items D) (k : StIn h h') : DueOK rows h' items D :=
  ⟨x.1, fun p e q => let ⟨a, y, z⟩ := x.2 p e q; ⟨a, y, z.keeps k⟩⟩
theorem DueOK.set {rows : List Row} {h : Heap} {items : Array Value} {D : List (Option El)} (x : DueOK rows h items D) {p : Nat} {a : Addr} {e : El} (hp : p < items.size) (ha : ElemAt rows h a e) : DueOK rows h (items.setIfInBounds p (.ref a)) (D.set p (some e)) := by
  refine ⟨by simpa using x.1, fun q e' hq => ?_⟩
  by_cases c : p = q
  · subst c
    rw [List.getElem?_set_self (by rw [← x.1]; exact hp)] at hq
    cases hq
    exact ⟨a, by simp [hp], ha⟩
  · rw [List.getElem?_set_ne c] at hq
    obtain ⟨b, h1, h2⟩ := x.2 q e' hq
    exact ⟨b, by rw [Array.getElem?_setIfInBounds_ne c]; exact h1, h2⟩
noncomputable def dRow (rows : List Row) (j : Nat) : Nat → List (Option El) → List (Option El)
  | 0, D => D
  | m + 1, D => (dRow rows j m D).set (place rows j ((rows.getD j row0).f + (m : Int))).toNat (some (j, (rows.getD j row0).f + (m : Int)))
noncomputable def dAll (rows : List Row) : Nat → List (Option El)
  | 0 => List.replicate (total rows).toNat none
  | j + 1 => dRow rows j (rows.getD j row0).n.toNat (dAll rows j)
theorem dRow_length (rows : List Row) (j : Nat) (D : List (Option El)) : ∀ m, (dRow rows j m D).length = D.length
  | 0 => rfl
  | m + 1 => by simp [dRow, dRow_length rows j D m]
theorem dAll_length (rows : List Row) : ∀ j, (dAll rows j).length = (total rows).toNat
  | 0 => by simp [dAll]
  | j + 1 => by simp [dAll, dRow_length, dAll_length rows j]
theorem Fz.sub {f h : Heap} {xs ys : List Addr} (F : Fz f h xs) (hs : ∀ y ∈ ys, y ∈ xs) : Fz f h ys := ⟨F.st, fun y hy => F.no y (hs y hy)⟩
theorem Fz.cons {f h : Heap} {xs : List Addr} {a : Addr} (F : Fz f h xs) (ha : f.get? a = none) : Fz f h (a :: xs) := ⟨F.st, fun y hy => by
  rcases List.mem_cons.mp hy with rfl | hy
  · exact ha
  · exact F.no y hy⟩
theorem bind82 (pm a : Value) : bindArgs (mkFd 12 81 pm) ⟨[a], []⟩ = pure [(("rows" : Str), a)] := by rfl
/-- the inner loop's turn: due[_law_place(rows, j, k)] = [k, below, j] -/
noncomputable def dueBody : List Stmt := match (fnBody 12).getD 1 (.Pass ⟨0, 0, 0, 0⟩) with
  | .For _ _ body .. => (match body.getD 1 (.Pass ⟨0, 0, 0, 0⟩) with | .For _ _ b2 .. => b2 | _ => [])
  | _ => []
theorem due_turn {w : World} {A : Around} {s : Shared} {g f h0 : Heap} {L D RA : Addr} {rows : List Row} {j : Nat} {k : Int} {items : Array Value} {dl : List (Option El)} {m : Str → Option Value} {pm : Value} {tk tb tj : Tok} {xs : List Addr}
    {Q : Flow → Shared → Prop} {E : Value → Shared → Prop} (B : Base g) (R : Room A 375 385) (gf : StIn g f) (F : Fz f s.heap (D :: xs)) (hxs : ∀ x ∈ xs, ∃ o, s.heap.get? x = some o) (ns : s.heap.Ns L m) (hLx : L ∈ xs) (hDx : D ∉ xs) (hr : RowsAt f RA rows) (hok : RowsOK rows) (hj : j < rows.length)
    (h1 : (rows.getD j row0).f ≤ k) (h2 : k < (rows.getD j row0).f + (rows.getD j row0).n) (ld : LOf s.heap D items) (hd : DueOK rows f items dl) (hdl : dl.length = (total rows).toNat)
    (m1 : m "rows" = some (.ref RA)) (m2 : m "due" = some (.ref D)) (m3 : m "j" = some (.int (j : Nat) tj)) (m4 : m "k" = some (.int k tk)) (m5 : m "below" = some (.int (rows.getD j row0).b tb))
    (h : ∀ h' t' f' items', StIn f f' → Fz f' h' (D :: xs) → (∀ x ∈ xs, h'.get? x = s.heap.get? x) → LOf h' D items' → DueOK rows f' items' (dl.set (place rows j k).toNat (some (j, k))) → Q .next { s with heap := h', toks := t' }) :
    wpAny (model PySem.Challenge.pw_mg0026_01 w) A (execs dueBody (callEnv (mkFd 12 81 pm) L 82)) Q E s := by
  obtain ⟨ok1, ok2, ok3, ok4, ok5, ok6⟩ := hok.get hj
  obtain ⟨pr1, pr2⟩ := place_range hok hj h1 h2
  have tot := hok.total
  refine wpAny_execs_cons (wpAny_Assign_Subscript ?_)
  refine list3 ?_
  refine ldc rfl rfl ns m4 ?_
  refine ldc rfl rfl ns m5 ?_
  refine ldc rfl rfl ns m3 ?_
  intro h1' (l1 : LOf h1' s.heap.objs.size _) (k1 : StIn s.heap h1') (s1 : h1'.objs.size = s.heap.objs.size + 1)
  generalize ha : s.heap.objs.size = a at *
  have na : s.heap.get? a = none := fresh_none (by omega)
  refine ldc rfl rfl (k1.ns ns) m2 ?_
  refine callF3 (a := 77) (fun Q hQ => ldG B (gf.trans (F.st.trans k1)) (fun _ x => by simp only [globsAre] at x; simp [x]) hQ) ?_
  refine ldc rfl rfl (k1.ns ns) m1 ?_
  refine ldc rfl rfl (k1.ns ns) m3 ?_
  refine ldc rfl rfl (k1.ns ns) m4 ?_
  refine ⟨(B.f77.keeps (gf.trans (F.st.trans k1))).here, ?_⟩
  refine place_spec (g := g) B (R.mono (by omega) (by omega)) (gf.trans (F.st.trans k1)) ((hr.keeps F.st).keeps k1) hok hj (by omega) (by omega) (fun h2' t2 t2' (k2 : StIn h1' h2') => ?_)
  have k12 := k1.trans k2
  refine setL (k12.lof ld) pr1 (by omega) (by have z := hd.1; omega) (fun h3' l3 w3 => ?_)
  refine wpAny_execs_nil ?_
  have nD : D ≠ a := by obtain ⟨o, ho⟩ := ld.get; exact ne_of_none ho na
  have F3 : Fz f h3' (D :: xs) := (F.ext k12).same (x := D) (by simp) w3
  have hax : a ∉ D :: xs := by
    intro hm
    rcases List.mem_cons.mp hm with e | hm
    · exact nD e.symm
    · obtain ⟨o, ho⟩ := hxs a hm
      rw [na] at ho; cases ho
  have la : ElemAt rows (hideAll h3' (D :: xs)) a (j, k) := by
    obtain ⟨n, e⟩ := k2.lof l1
    exact ⟨_, _, _, n, hideAll_get _ ((w3.2 a nD.symm).trans e) hax⟩
  refine h h3' _ (hideAll h3' (D :: xs)) _ F3.grow (Fz.top _ _) (fun x hx => ?_) l3 ((hd.keeps F3.grow).set (by have z := hd.1; omega) la)
  obtain ⟨o, ho⟩ := hxs x hx
  have hxD : x ≠ D := fun e => hDx (e ▸ hx)
  exact (w3.2 x hxD).trans ((k12 _ _ ho).trans ho.symm)
end Mine
end
section
open PySem PySem.W PyProof.Rows
namespace Mine
set_option maxRecDepth 100000
set_option maxHeartbeats 4000000
theorem RowsAt.same' {h h' : Heap} {a : Addr} {rows : List Row} (x : RowsAt h a rows) (k : StIn h h') : RowsAt h' a rows := x.keeps k
noncomputable def dueOuter : List Stmt := match (fnBody 12).getD 1 (.Pass ⟨0, 0, 0, 0⟩) with
  | .For _ _ body .. => body
  | _ => []
theorem due_inner {w : World} {A : Around} {s : Shared} {g f : Heap} {RA L it D : Addr} {rows : List Row} {j : Nat} {ia ib : Int} {items : Array Value} {m : Str → Option Value} {pm : Value} {tb tf tn tj : Tok}
    {Q : Flow → Shared → Prop} {E : Value → Shared → Prop} (B : Base g) (R : Room A 371 383) (gf : StIn g f) (hr : RowsAt f RA rows) (hok : RowsOK rows) (hjl : j < rows.length) (itL : it ≠ L) (itD : it ≠ D) (hLD : L ≠ D) (F7 : Fz f s.heap [D, L, it]) (ns7 : s.heap.Ns L m) (lD7 : LOf s.heap D items) (hd : DueOK rows f items (dAll rows j))
    (m1 : m "rows" = some (.ref RA)) (m2 : m "due" = some (.ref D)) (mj : m "j" = some (.int (j : Nat) tj)) (mb : m "below" = some (.int (rows.getD j row0).b tb)) (mf : m "first" = some (.int (rows.getD j row0).f tf)) (mn : m "many" = some (.int (rows.getD j row0).n tn)) (hit7 : IsRangeIter s.heap it ia ib 1)
    (h : ∀ h' t' m' f' items', StIn f f' → Fz f' h' [D, L, it] → h'.Ns L m' → LOf h' D items' → DueOK rows f' items' (dAll rows (j + 1)) → m' "rows" = some (.ref RA) → m' "due" = some (.ref D) → IsRangeIter h' it ia ib 1 → Q .next { s with heap := h', toks := t' }) :
    wpAny (model PySem.Challenge.pw_mg0026_01 w) A (execs (dueOuter.drop 1) (callEnv (mkFd 12 81 pm) L 82)) Q E s := by
  obtain ⟨ok1, ok2, ok3, ok4, ok5, ok6⟩ := hok.get hjl
  refine wpAny_execs_cons (wpAny_For ?_)
  refine callT2 (T := "range") (fun Q hQ => ldB B (gf.trans F7.st) (fun _ x => by simp only [globsAre] at x; simp [x]) (fun _ x => by simp only [bltsAre] at x; simp [x]) hQ) ?_
  refine ldc rfl rfl ns7 mf ?_
  refine wpAny_BinOp ?_
  refine ldc rfl rfl ns7 mf ?_
  refine ldc rfl rfl ns7 mn ?_
  refine PyProof.Rows.add_int ?_
  refine rangeIt2 (by omega) (by omega) (by omega) (fun it2 h8 t8 (k8 : StIn s.heap h8) (n8 : s.heap.get? it2 = none) hit8 => ?_)
  have i2L : it2 ≠ L := by obtain ⟨o, ho⟩ := Ns_get ns7; exact (ne_of_none (a := L) ho n8).symm
  have i2D : it2 ≠ D := by obtain ⟨o, ho⟩ := lD7.get; exact (ne_of_none ho n8).symm
  have i2i : it2 ≠ it := (ne_of_none hit7 n8).symm
  have n2f : f.get? it2 = none := F7.st.none n8
  refine codeAny_forLoop (fun n s' => ∃ q h' t' m' f' items', s' = { s with heap := h', toks := t' } ∧ n = (rows.getD j row0).n.toNat - q ∧ q ≤ (rows.getD j row0).n.toNat ∧ Fz f' h' [D, L, it, it2] ∧ StIn f f' ∧ h'.Ns L m' ∧ LOf h' D items' ∧ DueOK rows f' items' (dRow rows j q (dAll rows j)) ∧
    m' "rows" = some (.ref RA) ∧ m' "due" = some (.ref D) ∧ (∃ tj, m' "j" = some (.int (j : Nat) tj)) ∧ m' "below" = some (.int (rows.getD j row0).b tb) ∧ IsRangeIter h' it ia ib 1 ∧
    ∃ a2 b2 : Int, a2 = (rows.getD j row0).f + q ∧ b2 = (rows.getD j row0).n - q ∧ IsRangeIter h' it2 a2 b2 1) ?_ (rows.getD j row0).n.toNat ?_
  · rintro n s' ⟨q, h9, t9, m9, f9, items9, rfl, rfl, hq, F9, sf9, ns9, lD9, hd9, p1, p2, ⟨tj, p3⟩, p4, hit9, a2, b2, ea2, eb2, hit92⟩
    by_cases hqr : q = (rows.getD j row0).n.toNat
    · refine rangeEnd R.handled hit92 (by omega) (fun h10 k10 (s10 : h10.objs.size = h9.objs.size + 2) => ?_)
      refine wpAny_execs_nil ?_
      refine wpAny_execs_nil ?_
      have F10 := F9.extBut (x := it2) (by simp) k10
      refine h h10 _ _ f9 items9 sf9 (F10.sub (by simp)) (ns9.extBut k10 i2L.symm) (lD9.ext k10 i2D.symm) ?_ p1 p2 (k10 it _ i2i.symm hit9)
      rw [hqr] at hd9
      exact hd9
    · refine wpAny_pyNext_range_item hit92 (by omega) (fun h10 hit10 k10 => ?_)
      have F10 := F9.same (x := it2) (by simp) k10
      refine wpAny_assign_Name (wpAny_storeName_local rfl (ns9.sameBut k10 i2L.symm) (fun h11 ns11 w11 => ?_))
      have F11 : Fz f9 h11 [D, L, it, it2] := F10.same (x := L) (by simp) w11
      have lD11 : LOf h11 D items9 := (lD9.same k10 i2D.symm).same w11 hLD.symm
      have hit11 : IsRangeIter h11 it ia ib 1 := (w11.2 it itL).trans ((k10.2 it i2i.symm).trans hit9)
      have hit112 : IsRangeIter h11 it2 (a2 + 1) (b2 - 1) 1 := (w11.2 it2 i2L).trans hit10
      refine due_turn (s := { s with heap := h11, toks := _ }) (k := a2) (j := j) (rows := rows) (f := f9) (D := D) (xs := [L, it, it2]) (RA := RA) (dl := dRow rows j q (dAll rows j)) (h0 := h11) B (R.mono (by omega) (by omega)) (gf.trans sf9) F11 ?_ ns11 (by simp) (by simp [hLD.symm, itD.symm, i2D.symm]) (hr.keeps sf9) hok (by omega) (by omega) (by omega) lD11 hd9 (by rw [dRow_length, dAll_length]) p1 p2 p3 rfl p4 (fun h12 t12 f12 items12 sf12 F12 same12 l12 hd12 => ?_)
      · intro x hx
        simp only [List.mem_cons, List.not_mem_nil, or_false] at hx
        rcases hx with rfl | rfl | rfl
        · exact Ns_get ns11
        · exact ⟨_, hit11⟩
        · exact ⟨_, hit112⟩
      have e12 : dRow rows j (q + 1) (dAll rows j) = (dRow rows j q (dAll rows j)).set (place rows j a2).toNat (some (j, a2)) := by simp only [dRow, ea2]
      rw [← e12] at hd12
      have ns12 : h12.Ns L (fun x => if x = ("k" : Str) then some (.int a2 t9) else m9 x) := by
        obtain ⟨o, es, ep, e, r⟩ := ns11
        exact ⟨o, es, ep, (same12 L (by simp)).trans e, r⟩
      exact ⟨(rows.getD j row0).n.toNat - (q + 1), by omega, q + 1, h12, t12, _, f12, items12, rfl, rfl, by omega, F12, sf9.trans sf12, ns12, l12, hd12, p1, p2, ⟨tj, p3⟩, p4, (same12 it (by simp)).trans hit11, a2 + 1, b2 - 1, by omega, by omega, (same12 it2 (by simp)).trans hit112⟩
  · refine ⟨0, h8, _, _, f, items, rfl, by omega, by omega, ((F7.ext k8).cons n2f).sub (by simp), StIn.refl _, k8.ns ns7, k8.lof lD7, hd, m1, m2, ⟨_, mj⟩, mb, k8 _ _ hit7, _, _, by simp, ?_, hit8⟩
    omega
theorem due_spec {w : World} {A : Around} {s : Shared} {g : Heap} {RA : Addr} {rows : List Row}
    {Q : Value → Shared → Prop} {E : Value → Shared → Prop} (B : Base g) (R : Room A 370 380) (hg : StIn g s.heap) (hr : RowsAt s.heap RA rows) (hok : RowsOK rows)
    (h : ∀ h' t' D f items, StIn s.heap f → StIn f h' → f.get? D = none → LOf h' D items → DueOK rows f items (dAll rows rows.length) → Q (.ref D) { s with heap := h', toks := t' }) :
    wpAny (model PySem.Challenge.pw_mg0026_01 w) A (call (.ref 82) [.ref RA]) Q E s := by
  refine callFnX (n := 12) (cd := 81) (B.f82.keeps hg) (B.lim.keeps hg) R (by omega) (bind82 · _) (by decide) rfl (fun _ => ⟨rfl, rfl, rfl, rfl⟩) ⟨rfl, rfl, rfl⟩ ?_
  intro pm h0 L hL ns0 k0 s0 R' E'
  have nL : s.heap.get? L = none := fresh_none (by omega)
  have tot := hok.total
  have B' := B.keeps hg
  refine wpAny_execs_cons (rangeCompU (T := (total rows).toNat) (cl := []) (s := { s with heap := h0, toks := _ }) (fun i _ ys => ys.size = i) R'.handled rfl (by decide) rfl (by decide) rfl (by omega) rfl (fun _ _ _ _ x _ => x) (fun _ _ _ x => x) ?_ ?_ ns0 rfl rfl ?_)
  · refine callT1 (T := "range") (fun Q hQ => ldB B' k0 (fun _ x => by simp only [globsAre] at x; simp [x]) (fun _ x => by simp only [bltsAre] at x; simp [x]) hQ) ?_
    refine callB1 (id := "sum") (fun Q hQ => ldB B' k0 (fun _ x => by simp only [globsAre] at x; simp [x]) (fun _ x => by simp only [bltsAre] at x; simp [x]) hQ) ?_
    refine manyComp (s := { s with heap := h0, toks := _ }) R'.handled rfl (by decide) rfl (by decide) rfl rfl rfl (hr.keeps k0) hok ns0 rfl rfl rfl rfl (fun h1 t1 D ys (k1 : StIn h0 h1) l1 sm1 e1 => ?_)
    refine sumSmall (M := 1000) R'.handled l1 sm1 (by omega) (by omega) ?_ (fun h2 tk2 t2 n (k2 : StIn h1 h2) s2 hn0 hn1 hn => ?_)
    · have : ys.size = rows.length := by have := congrArg List.length e1; simpa using this
      have := hok.2.1; omega
    have en : n = ((total rows).toNat : Nat) := by rw [hn, e1]; unfold total at tot ⊢; omega
    subst en
    refine rangeIt (by omega) (by omega) (fun it h3 t3 (k3 : StIn h2 h3) s3 (n3 : h2.get? it = none) hit3 => ?_)
    exact ⟨it, h3, t3, rfl, rfl, (k1.trans k2).trans k3, (k1.trans k2).none n3, hit3⟩
  · intro i h2 t2 C m ys f ti hi kf sf hP nsC mx Q' E'' hq
    refine list0 (fun h3 l3 (k3 : StIn h2 h3) s3 => ?_)
    exact hq _ h3 _ k3 (fun f3 _ _ => by simp [hP])
  · intro h2 t1 D ys f (w2 : Heap.ExtBut L f h2) (sf : StIn h0 f) fD (hD : h0.get? D = none) ns2 l2 hP
    have hLD : L ≠ D := by obtain ⟨o, ho⟩ := Ns_get ns0; exact ne_of_none (a := L) ho hD
    have nD : s.heap.get? D = none := k0.none hD
    have k2 : StIn s.heap h2 := fun b o e => w2 b o (fun q => by rw [q, nL] at e; cases e) (sf b o (k0 b o e))
    have F2 : Fz s.heap h2 [D, L] := ⟨k2, fun x hx => by
      simp only [List.mem_cons, List.not_mem_nil, or_false] at hx
      rcases hx with rfl | rfl
      · exact nD
      · exact nL⟩
    have hd0 : DueOK rows s.heap ys (dAll rows 0) := ⟨by simp only [dAll, List.length_replicate]; exact hP, fun p e he => by
      simp only [dAll] at he
      rw [List.getElem?_replicate] at he
      split at he <;> cases he⟩
    clear sf fD
    have rlen := hok.2.1
    refine wpAny_execs_cons (wpAny_For ?_)
    refine callT1 (T := "range") (fun Q hQ => ldB B' k2 (fun _ x => by simp only [globsAre] at x; simp [x]) (fun _ x => by simp only [bltsAre] at x; simp [x]) hQ) ?_
    refine callB1 (id := "len") (fun Q hQ => ldB B' k2 (fun _ x => by simp only [globsAre] at x; simp [x]) (fun _ x => by simp only [bltsAre] at x; simp [x]) hQ) ?_
    refine ldc rfl rfl ns2 rfl ?_
    obtain ⟨as, la, lae, rin⟩ := hr
    refine len_list (k2.lof la).isList (by rw [refs_size]; omega) ?_
    rw [refs_size]
    refine rangeIt (by omega) (by omega) (fun it h3 t3 (k3 : StIn h2 h3) _ (n3 : h2.get? it = none) hit3 => ?_)
    have itL : it ≠ L := by obtain ⟨o, ho⟩ := Ns_get ns2; exact (ne_of_none (a := L) ho n3).symm
    have itD : it ≠ D := by obtain ⟨o, ho⟩ := l2.get; exact (ne_of_none ho n3).symm
    have nit : s.heap.get? it = none := k2.none n3
    refine codeAny_forLoop (fun n s' => ∃ j h' t' m' f items, s' = { s with heap := h', toks := t' } ∧ n = as.length - j ∧ j ≤ as.length ∧ Fz f h' [D, L, it] ∧ StIn s.heap f ∧ h'.Ns L m' ∧ LOf h' D items ∧ DueOK rows f items (dAll rows j) ∧
      m' "rows" = some (.ref RA) ∧ m' "due" = some (.ref D) ∧ ∃ a b : Int, a = j ∧ b = (as.length : Int) - j ∧ IsRangeIter h' it a b 1) ?_ as.length ?_
    · rintro n s' ⟨j, h', t', m', f, items, rfl, rfl, hj, F', sf, ns', lD, hd, m1, m2, a, b, ea, eb, hit'⟩
      by_cases hir : j = as.length
      · refine rangeEnd R'.handled hit' (by omega) (fun h5 k5 (s5 : h5.objs.size = h'.objs.size + 2) => ?_)
        refine wpAny_execs_nil ?_
        refine wpAny_execs_cons (wpAny_Return_some ?_)
        have F5 := F'.extBut (x := it) (by simp) k5
        refine ldc rfl rfl (ns'.extBut k5 itL.symm) m2 ?_
        rw [hir, lae] at hd
        exact h h5 t' D f items sf F5.st (F'.no D (by simp)) (lD.ext k5 itD.symm) hd
      · have hjl : j < as.length := by omega
        refine wpAny_pyNext_range_item hit' (by omega) (fun h5 hit5 k5 => ?_)
        have F5 := F'.same (x := it) (by simp) k5
        refine wpAny_assign_Name (wpAny_storeName_local rfl (ns'.sameBut k5 itL.symm) (fun h6 ns6 w6 => ?_))
        have F6 : Fz f h6 [D, L, it] := F5.same (x := L) (by simp) w6
        have hit6 : IsRangeIter h6 it (a + 1) (b - 1) 1 := (w6.2 it itL).trans hit5
        have lD6 : LOf h6 D items := (lD.same k5 itD.symm).same w6 hLD.symm
        subst ea
        obtain ⟨ok1, ok2, ok3, ok4, ok5, ok6⟩ := hok.get (j := j) (by omega)
        obtain ⟨tb, tf, tn, rj⟩ := rin j hjl
        have sh6 : StIn s.heap h6 := sf.trans F6.st
        refine wpAny_execs_cons (Assign_Tuple (Subscript_ ?_))
        refine ldc rfl rfl ns6 m1 ?_
        refine ldc rfl rfl ns6 rfl ?_
        refine item_listL (l := as.map Value.ref) (sh6.lof la).isList (by omega) (by omega) (getD_ref hjl) ?_
        refine unpack3 R'.handled (sh6.lof rj).isList ns6 rfl rfl rfl rfl (fun h7 t7 ns7 w7 => ?_)
        have F7 : Fz f h7 [D, L, it] := F6.extBut (x := L) (by simp) w7
        have hit7 : IsRangeIter h7 it (↑j + 1) (b - 1) 1 := w7 it _ itL hit6
        have lD7 : LOf h7 D items := lD6.ext w7 hLD.symm
        refine due_inner (s := { s with heap := h7, toks := _ }) (j := j) B' R' sf ⟨as, sf.lof la, lae, fun i hi => (rin i hi).keeps sf⟩ hok (by omega) itL itD hLD F7 ns7 lD7 hd m1 m2 rfl rfl rfl rfl hit7 (fun h8 t8 m8 f8 items8 sf8 F8 ns8 l8 d8 p1 p2 hit8 => ?_)
        exact ⟨as.length - (j + 1), by omega, j + 1, h8, t8, m8, f8, items8, rfl, rfl, by omega, F8, sf.trans sf8, ns8, l8, d8, p1, p2, ↑j + 1, b - 1, by omega, by omega, hit8⟩
    · exact ⟨0, h3, _, _, s.heap, ys, rfl, by omega, by omega, (F2.ext k3).cons nit |>.sub (by simp), StIn.refl _, k3.ns ns2, k3.lof l2, hd0, rfl, rfl, 0, as.length, rfl, by omega, hit3⟩
end Mine
end
section
open PySem PySem.W PyProof.Rows
namespace Mine
set_option maxRecDepth 100000
set_option maxHeartbeats 4000000
structure LawSt (w : World) (h : Heap) (L RA N t : Nat) (rows : List Row) : Prop where
  kb : KBase w h N t
  ra : RowsAt h RA rows
  c1 : h.IsCell (L + 1) (some (.ref RA))
  c2 : h.IsCell (L + 1 + 1) (some (.ref (N + 60)))
  base : Base h
theorem LawSt.keeps {w : World} {h h' : Heap} {L RA N t : Nat} {rows : List Row} (x : LawSt w h L RA N t rows) (k : StIn h h') : LawSt w h' L RA N t rows :=
  ⟨x.kb.keeps k, x.ra.keeps k, x.c1.keeps k, x.c2.keeps k, x.base.keeps k⟩
section
variable {prog : Program} {w : World} {A : Around} {E : Value → Shared → Prop} {s : Shared} {env : Env}
theorem ldCell {x : Str} {pos : Pos} {c : Addr} {v : Value} {Q : Value → Shared → Prop} (hv : s.heap.IsCell c (some v)) (h : Q v s)
    (hk : env.scope.kind = .function := by rfl) (hl : env.kindOf x = some .cell := by rfl) (hc : env.cells.lookup x = some c := by rfl) (hd : (x == ("__debug__" : Str)) = false := by decide) :
    wpAny (model prog w) A (eval (.Name x pos) env) Q E s := wpAny_Name (wpAny_loadName_cell hk hl hc hv h) hd
end
noncomputable def entOf (rows : List Row) (c : Nat → Nat) (j : Nat) : Ent := ⟨(rows.getD j row0).f + (c j : Int), (rows.getD j row0).b, j⟩
noncomputable def Ents (rows : List Row) (C : Addr) (i : Nat) (f : Heap) (ys : Array Value) : Prop := ∃ xs : List Addr, ys = refs xs ∧ xs.length = i ∧ ∀ p, p < i → EntAt f C (xs.getD p 0) (entOf rows (fun _ => 0) p)
noncomputable def hcE : Expr := match (fnBody 13).getD 2 (.Pass ⟨0, 0, 0, 0⟩) with | .Assign _ e _ => e | _ => .Name "?" ⟨0, 0, 0, 0⟩
noncomputable def hcScope : Scope := match hcE with | .ListComp _ _ s _ => s | _ => default
noncomputable def hcCl (L : Addr) : List (Str × Addr) := [(("rows" : Str), L + 1), (("key" : Str), L + 1 + 1)]
noncomputable def hcElt : Expr := match hcE with | .ListComp e _ _ _ => e | _ => .Name "?" ⟨0, 0, 0, 0⟩
theorem rowItem {prog : Program} {w : World} {A : Around} {E : Value → Shared → Prop} {s : Shared} {env : Env} {p1 p2 p3 : Pos} {RA c : Addr} {rows : List Row} {x y : Str} {j : Nat} {tj : Tok} {m : Str → Option Value} {Q : Value → Shared → Prop} (hr : RowsAt s.heap RA rows) (hj : j < rows.length) (hrl : rows.length ≤ 9)
    (hv : s.heap.IsCell c (some (.ref RA))) (ns : s.heap.Ns env.locals m) (mj : m y = some (.int (j : Nat) tj))
    (h : ∀ ra, RowAt s.heap ra (rows.getD j row0) → Q (.ref ra) s)
    (hk : env.scope.kind = .function := by rfl) (hl : env.kindOf x = some .cell := by rfl) (hc : env.cells.lookup x = some c := by rfl) (hd : (x == ("__debug__" : Str)) = false := by decide)
    (hl2 : env.kindOf y = some .local := by rfl) (hd2 : (y == ("__debug__" : Str)) = false := by decide) :
    wpAny (model prog w) A (eval (.Subscript (.Name x p1) (.Name y p2) p3) env) Q E s := by
  obtain ⟨as, la, lae, rin⟩ := hr
  refine Subscript_ ?_
  refine ldCell hv ?_ hk hl hc hd
  refine ldl ns mj ?_ hk hl2 hd2
  exact item_listL (l := as.map Value.ref) la.isList (by omega) (by omega) (getD_ref (by omega)) (h _ (rin j (by omega)))
theorem ent_turn {w : World} {A : Around} {s : Shared} {L RA N t C : Nat} {rows : List Row} {pm : Value} {m : Str → Option Value} {j : Nat} {tj : Tok} {Q E : Value → Shared → Prop} (R : Room A 500 1000)
    (LS : LawSt w s.heap L RA N t rows) (hok : RowsOK rows) (ns : s.heap.Ns C m) (mj : m "j" = some (.int (j : Nat) tj)) (hj : j < rows.length)
    (h : ∀ x h' t', StIn s.heap h' → s.heap.get? x = none → (∀ f, StIn s.heap f ∨ True → (∀ a o, s.heap.get? a = none → h'.get? a = some o → f.get? a = some o) → EntAt f (N + 60) x (entOf rows (fun _ => 0) j)) → Q (.ref x) { s with heap := h', toks := t' }) :
    wpAny (model PySem.Challenge.pw_mg0026_01 w) A (eval hcElt (compEnvC hcScope (hcCl L) C (lawEnv pm L))) Q E s := by
  have rl := hok.2.1
  refine list3 ?_
  refine keyCall (N := N) (t := t) R (fun Q hQ => ldCell LS.c2 hQ) ?_
  refine list2 ?_
  refine Subscript_ (rowItem LS.ra hj rl LS.c1 ns mj (fun ra rr => ?_))
  obtain ⟨tb, tf, tn, rr⟩ := rr
  refine wpAny_Constant_int ?_
  refine itemA (l := [_, _, _]) rr.isList (by omega) (by omega) rfl ?_
  refine Subscript_ (rowItem LS.ra hj rl LS.c1 ns mj (fun ra' rr' => ?_))
  obtain ⟨tb', tf', tn', rr'⟩ := rr'
  refine wpAny_Constant_int ?_
  refine itemA (l := [_, _, _]) rr'.isList (by omega) (by omega) rfl ?_
  intro h1 (l1 : LOf h1 s.heap.objs.size _) (k1 : StIn s.heap h1) (s1 : h1.objs.size = s.heap.objs.size + 1)
  have na : s.heap.get? s.heap.objs.size = none := fresh_none (Nat.le_refl _)
  refine ⟨s.heap.objs.size, rfl, LS.kb.keeps k1, fun i dd h2 t2 (k2 : StIn h1 h2) (ni : h1.get? i = none) hi => ?_⟩
  have k12 := k1.trans k2
  refine ldl (k12.ns ns) mj ?_
  have LS2 := LS.keeps k12
  refine Subscript_ (rowItem LS2.ra hj rl LS2.c1 (k12.ns ns) mj (fun ra2 rr2 => ?_))
  obtain ⟨tb2, tf2, tn2, rr2⟩ := rr2
  refine wpAny_Constant_int ?_
  refine itemA (l := [_, _, _]) rr2.isList (by omega) (by omega) rfl ?_
  intro h3 (l3 : LOf h3 h2.objs.size _) (k3 : StIn h2 h3) (s3 : h3.objs.size = h2.objs.size + 1)
  have nx : h2.get? h2.objs.size = none := fresh_none (Nat.le_refl _)
  refine h _ h3 _ (k12.trans k3) (k12.none nx) (fun f _ hf => ?_)
  obtain ⟨n3, e3⟩ := l3
  obtain ⟨n1, e1⟩ := l1
  have x1 := hf _ _ (k12.none nx) e3
  have x2 := hf _ _ (k1.none ni) (k3 _ _ hi)
  have x3 := hf _ _ na (k3 _ _ (k2 _ _ e1))
  have ef : (entOf rows (fun _ => 0) j).n = (rows.getD j row0).f := by simp [entOf]
  refine ⟨i, n3, _, _, by rw [ef]; exact x1, s.heap.objs.size, dd, n1, _, _, x2, by rw [ef]; exact x3⟩
end Mine
end
section
open PySem PySem.W PyProof.Rows
namespace Mine
set_option maxRecDepth 100000
set_option maxHeartbeats 4000000
noncomputable def cmpR (r : Addr → Int) (x y : Addr) : Bool := decide (r x < r y)
inductive Sub (s : Nat) : Nat → Prop
  | refl : Sub s s
  | kid {p c : Nat} : Sub s p → 0 < c → (c - 1) / 2 = p → Sub s c
theorem Sub.le {s p : Nat} (h : Sub s p) : s ≤ p := by
  induction h with
  | refl => exact Nat.le_refl _
  | kid _ _ e ih => omega
theorem Sub.up {s p : Nat} (h : Sub s p) (hp : s < p) : Sub s ((p - 1) / 2) := by
  cases h with
  | refl => omega
  | kid h _ e => rw [e]; exact h
theorem gset_self {xs : List Addr} {i : Nat} {a : Addr} (h : i < xs.length) : (xs.set i a).getD i 0 = a := by simp [List.getD_eq_getElem?_getD, h]
theorem gset_ne {xs : List Addr} {i j : Nat} {a : Addr} (h : i ≠ j) : (xs.set i a).getD j 0 = xs.getD j 0 := by simp [List.getD_eq_getElem?_getD, List.getElem?_set_ne h]
theorem set_same_getD {xs : List Addr} {i : Nat} (h : i < xs.length) : xs.set i (xs.getD i 0) = xs := by
  rw [List.getD_eq_getElem?_getD, List.getElem?_eq_getElem h]
  exact List.set_getElem_self h
theorem cnt_set {xs : List Addr} {i : Nat} (h : i < xs.length) (v b : Addr) : (xs.set i v).count b + (if xs.getD i 0 = b then 1 else 0) = xs.count b + (if v = b then 1 else 0) := by
  have e : xs.getD i 0 = xs[i] := by simp [List.getD_eq_getElem?_getD, h]
  rw [List.count_set h, e]
  have pos : xs[i] = b → 0 < xs.count b := fun q => List.count_pos_iff.mpr (q ▸ List.getElem_mem h)
  by_cases c : xs[i] = b
  · have := pos c
    by_cases d : v = b <;> simp [c, d] <;> omega
  · by_cases d : v = b <;> simp [c, d]
theorem swap_perm {xs : List Addr} {p c : Nat} (hp : p < xs.length) (hc : c < xs.length) (hne : p ≠ c) (v : Addr) : ((xs.set p (xs.getD c 0)).set c v).Perm (xs.set p v) := by
  rw [List.perm_iff_count]
  intro b
  have e1 := cnt_set (xs := xs.set p (xs.getD c 0)) (i := c) (by simpa using hc) v b
  have e2 := cnt_set hp (xs.getD c 0) b
  have e3 := cnt_set hp v b
  rw [gset_ne hne] at e1
  omega
/-- the edges of a heap from a parent on -/
noncomputable def Hp (r : Addr → Int) (s : Nat) (xs : List Addr) : Prop := ∀ c, 0 < c → c < xs.length → s ≤ (c - 1) / 2 → r (xs.getD ((c - 1) / 2) 0) ≤ r (xs.getD c 0)
/-- the same with a hole at p -/
structure Hole (r : Addr → Int) (s p : Nat) (xs : List Addr) : Prop where
  e : ∀ c, 0 < c → c < xs.length → s ≤ (c - 1) / 2 → c ≠ p → (c - 1) / 2 ≠ p → r (xs.getD ((c - 1) / 2) 0) ≤ r (xs.getD c 0)
  b : s < p → ∀ c, 0 < c → c < xs.length → (c - 1) / 2 = p → r (xs.getD ((p - 1) / 2) 0) ≤ r (xs.getD c 0)
  sub : Sub s p
theorem Hole.down {r : Addr → Int} {s p c : Nat} {xs : List Addr} (H : Hole r s p xs) (hp : p < xs.length) (hc : c < xs.length) (h0 : 0 < c) (hpc : (c - 1) / 2 = p) (hmin : ∀ d, 0 < d → d < xs.length → (d - 1) / 2 = p → r (xs.getD c 0) ≤ r (xs.getD d 0)) :
    Hole r s c (xs.set p (xs.getD c 0)) := by
  have hsp := H.sub.le
  have hne : p ≠ c := by omega
  refine ⟨fun d d0 dn ds dc dq => ?_, fun _ d d0 dn dq => ?_, H.sub.kid h0 hpc⟩
  · rw [List.length_set] at dn
    by_cases q : (d - 1) / 2 = p
    · rw [q, gset_self hp, gset_ne (by omega)]
      exact hmin d d0 dn q
    · by_cases q2 : d = p
      · subst q2
        rw [gset_self hp, gset_ne (by omega)]
        exact H.b (by omega) c h0 hc hpc
      · rw [gset_ne (Ne.symm q), gset_ne (Ne.symm q2)]
        exact H.e d d0 dn ds q2 q
  · rw [List.length_set] at dn
    rw [hpc, gset_self hp, gset_ne (by omega)]
    have := H.e d d0 dn (by omega) (by omega) (by omega)
    rw [dq] at this
    exact this
theorem su_inv {r : Addr → Int} {s n : Nat} : ∀ (k p : Nat) (xs : List Addr), n - p = k → xs.length = n → p < n → Hole r s p xs →
    Hole r s (su (cmpR r) n p xs).1 (su (cmpR r) n p xs).2 ∧ (su (cmpR r) n p xs).2.length = n ∧ (su (cmpR r) n p xs).1 < n ∧ n ≤ 2 * (su (cmpR r) n p xs).1 + 1 ∧
    ∀ v, ((su (cmpR r) n p xs).2.set (su (cmpR r) n p xs).1 v).Perm (xs.set p v) := by
  intro k
  induction k using Nat.strongRecOn with
  | _ k ih =>
    intro p xs hk hl hp H
    rw [su]
    by_cases h1 : 2 * p + 1 < n
    · rw [if_pos h1]
      by_cases h2 : 2 * p + 2 < n ∧ cmpR r (xs.getD (2 * p + 1) 0) (xs.getD (2 * p + 2) 0) = false
      · rw [if_pos h2]
        obtain ⟨h2, h3⟩ := h2
        have h3 : r (xs.getD (2 * p + 2) 0) ≤ r (xs.getD (2 * p + 1) 0) := by simpa [cmpR] using h3
        have H' := H.down (c := 2 * p + 2) (by omega) (by omega) (by omega) (by omega) (fun d d0 dn dq => by
          have : d = 2 * p + 1 ∨ d = 2 * p + 2 := by omega
          rcases this with rfl | rfl
          · exact h3
          · exact Int.le_refl _)
        obtain ⟨a, b, c, d, e⟩ := ih (n - (2 * p + 2)) (by omega) (2 * p + 2) _ rfl (by simpa using hl) h2 H'
        exact ⟨a, b, c, d, fun v => (e v).trans (swap_perm (by omega) (by omega) (by omega) v)⟩
      · rw [if_neg h2]
        have H' := H.down (c := 2 * p + 1) (by omega) (by omega) (by omega) (by omega) (fun d d0 dn dq => by
          have : d = 2 * p + 1 ∨ d = 2 * p + 2 := by omega
          rcases this with rfl | rfl
          · exact Int.le_refl _
          · have z : ¬ (cmpR r (xs.getD (2 * p + 1) 0) (xs.getD (2 * p + 2) 0) = false) := fun q => h2 ⟨by omega, q⟩
            have z : r (xs.getD (2 * p + 1) 0) < r (xs.getD (2 * p + 2) 0) := by simpa [cmpR] using z
            omega)
        obtain ⟨a, b, c, d, e⟩ := ih (n - (2 * p + 1)) (by omega) (2 * p + 1) _ rfl (by simpa using hl) h1 H'
        exact ⟨a, b, c, d, fun v => (e v).trans (swap_perm (by omega) (by omega) (by omega) v)⟩
    · rw [if_neg h1]
      exact ⟨H, hl, hp, by omega, fun v => List.Perm.refl _⟩
theorem sd_inv {r : Addr → Int} {s : Nat} {new : Addr} : ∀ (p : Nat) (xs : List Addr), p < xs.length → Hole r s p xs → (∀ c, 0 < c → c < xs.length → (c - 1) / 2 = p → r new ≤ r (xs.getD c 0)) →
    Hp r s (sd (cmpR r) new s p xs) ∧ (sd (cmpR r) new s p xs).Perm (xs.set p new) := by
  intro p
  induction p using Nat.strongRecOn with
  | _ p ih =>
    intro xs hp H hk
    have hsp := H.sub.le
    have stop : (s < p → r (xs.getD ((p - 1) / 2) 0) ≤ r new) → Hp r s (xs.set p new) := by
      intro hq c c0 cn cs
      rw [List.length_set] at cn
      by_cases q : (c - 1) / 2 = p
      · rw [q, gset_self hp, gset_ne (by omega)]
        exact hk c c0 cn q
      · by_cases q2 : c = p
        · subst q2
          rw [gset_self hp, gset_ne (by omega)]
          exact hq (by omega)
        · rw [gset_ne (Ne.symm q), gset_ne (Ne.symm q2)]
          exact H.e c c0 cn cs q2 q
    rw [sd]
    by_cases h1 : s < p
    · rw [if_pos h1]
      have hup := (H.sub.up h1).le
      by_cases h2 : cmpR r new (xs.getD ((p - 1) / 2) 0) = true
      · rw [if_pos h2]
        have h3 : r new < r (xs.getD ((p - 1) / 2) 0) := by simpa [cmpR] using h2
        have H' : Hole r s ((p - 1) / 2) (xs.set p (xs.getD ((p - 1) / 2) 0)) := by
          refine ⟨fun c c0 cn cs cp cq => ?_, fun hs c c0 cn cq => ?_, H.sub.up h1⟩
          · rw [List.length_set] at cn
            by_cases q : (c - 1) / 2 = p
            · rw [q, gset_self hp, gset_ne (by omega)]
              exact H.b h1 c c0 cn q
            · have q2 : c ≠ p := fun z => cq (by rw [z])
              rw [gset_ne (Ne.symm q), gset_ne (Ne.symm q2)]
              exact H.e c c0 cn cs q2 q
          · rw [List.length_set] at cn
            have up := H.e ((p - 1) / 2) (by omega) (by omega) (H.sub.up h1 |>.up hs).le (by omega) (by omega)
            rw [gset_ne (by omega)]
            by_cases q2 : c = p
            · subst q2
              rw [gset_self hp]
              exact up
            · rw [gset_ne (Ne.symm q2)]
              have := H.e c c0 cn (by omega) q2 (by omega)
              rw [cq] at this
              omega
        obtain ⟨a, b⟩ := ih ((p - 1) / 2) (by omega) (xs.set p (xs.getD ((p - 1) / 2) 0)) (by simp; omega) H' (fun c c0 cn cq => by
          rw [List.length_set] at cn
          by_cases q2 : c = p
          · subst q2
            rw [gset_self hp]
            omega
          · rw [gset_ne (Ne.symm q2)]
            have := H.e c c0 cn (by omega) q2 (by omega)
            rw [cq] at this
            omega)
        exact ⟨a, b.trans (swap_perm hp (by omega) (by omega) new)⟩
      · rw [if_neg h2]
        have h3 : ¬ r new < r (xs.getD ((p - 1) / 2) 0) := by simpa [cmpR] using h2
        exact ⟨stop fun _ => by omega, List.Perm.refl _⟩
    · rw [if_neg h1]
      exact ⟨stop fun z => absurd z h1, List.Perm.refl _⟩
theorem siftup_inv {r : Addr → Int} {s : Nat} {xs : List Addr} (hs : s < xs.length) (H : Hp r (s + 1) xs) : Hp r s (siftup (cmpR r) s xs) ∧ (siftup (cmpR r) s xs).Perm xs := by
  have H0 : Hole r s s xs := ⟨fun c c0 cn cs cp cq => H c c0 cn (by omega), fun z => absurd z (Nat.lt_irrefl _), .refl⟩
  obtain ⟨a, b, c, d, e⟩ := su_inv (n := xs.length) _ s xs rfl rfl hs H0
  unfold siftup
  generalize su (cmpR r) xs.length s xs = P at *
  have H1 : Hole r s P.1 (P.2.set P.1 (xs.getD s 0)) := by
    refine ⟨fun c' c0 cn cs cp cq => ?_, fun hs' c' c0 cn cq => ?_, a.sub⟩
    · rw [List.length_set] at cn
      rw [gset_ne (Ne.symm cp), gset_ne (Ne.symm cq)]
      exact a.e c' c0 cn cs cp cq
    · rw [List.length_set] at cn
      omega
  obtain ⟨x, y⟩ := sd_inv (new := xs.getD s 0) P.1 _ (by simp; omega) H1 (fun c' c0 cn cq => by rw [List.length_set] at cn; omega)
  refine ⟨x, y.trans ?_⟩
  rw [List.set_set]
  refine (e _).trans ?_
  rw [set_same_getD hs]
end Mine
end
section
open PySem PySem.W PyProof.Rows
namespace Mine
set_option maxRecDepth 100000
set_option maxHeartbeats 4000000
theorem hfy_inv {r : Addr → Int} : ∀ (i : Nat) (xs : List Addr), i ≤ xs.length → Hp r i xs → Hp r 0 (hfy (cmpR r) i xs) ∧ (hfy (cmpR r) i xs).Perm xs
  | 0, xs, _, H => ⟨H, List.Perm.refl _⟩
  | i + 1, xs, hi, H => by
    obtain ⟨a, b⟩ := siftup_inv (r := r) (s := i) (xs := xs) (by omega) H
    obtain ⟨c, d⟩ := hfy_inv i (siftup (cmpR r) i xs) (by rw [b.length_eq]; omega) a
    exact ⟨c, d.trans b⟩
theorem heapify_ok {r : Addr → Int} (xs : List Addr) : Hp r 0 (hfy (cmpR r) (xs.length / 2) xs) ∧ (hfy (cmpR r) (xs.length / 2) xs).Perm xs :=
  hfy_inv _ xs (by omega) (fun c c0 cn cs => by omega)
theorem top_min {r : Addr → Int} {xs : List Addr} (H : Hp r 0 xs) : ∀ i, i < xs.length → r (xs.getD 0 0) ≤ r (xs.getD i 0) := by
  intro i
  induction i using Nat.strongRecOn with
  | _ i ih =>
    intro hi
    by_cases h0 : i = 0
    · subst h0; exact Int.le_refl _
    · have a := ih ((i - 1) / 2) (by omega) (by omega)
      have b := H i (by omega) hi (by omega)
      omega
theorem top_min' {r : Addr → Int} {xs : List Addr} (H : Hp r 0 xs) {x : Addr} (hx : x ∈ xs) : r (xs.getD 0 0) ≤ r x := by
  obtain ⟨i, hi, e⟩ := List.mem_iff_getElem.mp hx
  have := top_min H i hi
  have e2 : xs.getD i 0 = x := by simp [List.getD_eq_getElem?_getD, hi, e]
  rwa [e2] at this
theorem rep_ok {r : Addr → Int} {xs : List Addr} {y : Addr} (H : Hp r 0 xs) (hne : 0 < xs.length) : Hp r 0 (repR (cmpR r) y xs) ∧ (repR (cmpR r) y xs).Perm (y :: xs.tail) := by
  have H1 : Hp r 1 (xs.set 0 y) := fun c c0 cn cs => by
    rw [List.length_set] at cn
    rw [gset_ne (by omega), gset_ne (by omega)]
    exact H c c0 cn (by omega)
  obtain ⟨a, b⟩ := siftup_inv (r := r) (s := 0) (xs := xs.set 0 y) (by simpa using hne) H1
  refine ⟨a, b.trans ?_⟩
  cases xs with
  | nil => simp at hne
  | cons x t => exact List.Perm.refl _
theorem pop_ok {r : Addr → Int} {xs : List Addr} (H : Hp r 0 xs) (hne : 0 < xs.length) : Hp r 0 (popR (cmpR r) xs) ∧ (popR (cmpR r) xs).Perm xs.tail := by
  unfold popR
  by_cases h1 : xs.length ≤ 1
  · rw [if_pos h1]
    refine ⟨fun c c0 cn => by simp at cn, ?_⟩
    match xs, hne, h1 with
    | [a], _, _ => exact List.Perm.refl _
  · rw [if_neg h1]
    have hl : (xs.dropLast.set 0 (xs.getLastD 0)).length = xs.length - 1 := by simp
    have gd : ∀ c, 0 < c → c < xs.length - 1 → (xs.dropLast.set 0 (xs.getLastD 0)).getD c 0 = xs.getD c 0 := fun c c0 cn => by
      rw [gset_ne (by omega), List.getD_eq_getElem?_getD, List.getD_eq_getElem?_getD, List.getElem?_dropLast, if_pos cn]
    have H1 : Hp r 1 (xs.dropLast.set 0 (xs.getLastD 0)) := fun c c0 cn cs => by
      rw [hl] at cn
      rw [gd c c0 cn, gd _ (by omega) (by omega)]
      exact H c c0 (by omega) (by omega)
    obtain ⟨a, b⟩ := siftup_inv (r := r) (s := 0) (xs := xs.dropLast.set 0 (xs.getLastD 0)) (by omega) H1
    refine ⟨a, b.trans ?_⟩
    match xs, h1 with
    | x :: t, h1 =>
      have ht : t ≠ [] := fun e => by rw [e] at h1; simp at h1
      rw [List.dropLast_cons_of_ne_nil ht, List.set_cons_zero, List.tail_cons]
      have el : (x :: t).getLastD 0 = t.getLast ht := by
        rw [List.getLastD_eq_getLast?, List.getLast?_cons_of_ne_nil ht, List.getLast?_eq_some_getLast ht]; rfl
      rw [el]
      have e := List.dropLast_concat_getLast ht
      calc (t.getLast ht :: t.dropLast).Perm (t.dropLast ++ [t.getLast ht]) := (List.perm_append_singleton _ _).symm
        _ = t := e
end Mine
end
section
open PySem PySem.W PyProof.Rows
namespace Mine
set_option maxRecDepth 100000
set_option maxHeartbeats 4000000
noncomputable def EOK (e : Ent) : Prop := -100 ≤ e.n ∧ e.n ≤ 100 ∧ 1 ≤ e.d ∧ e.d ≤ 9 ∧ 0 ≤ e.j ∧ e.j ≤ 99
noncomputable def rk (e : Ent) : Int := ((e.n * (2520 / e.d)) * 100 + e.j) * 1000 + e.n
theorem div2520 {d : Int} (h1 : 1 ≤ d) (h2 : d ≤ 9) : d * (2520 / d) = 2520 := by
  have : d = 1 ∨ d = 2 ∨ d = 3 ∨ d = 4 ∨ d = 5 ∨ d = 6 ∨ d = 7 ∨ d = 8 ∨ d = 9 := by omega
  rcases this with rfl | rfl | rfl | rfl | rfl | rfl | rfl | rfl | rfl <;> rfl
theorem cross_rk {n1 d1 n2 d2 : Int} (h1 : 1 ≤ d1) (h1' : d1 ≤ 9) (h2 : 1 ≤ d2) (h2' : d2 ≤ 9) :
    (n1 * (2520 / d1) < n2 * (2520 / d2) ↔ n1 * d2 < n2 * d1) ∧ (n1 * (2520 / d1) = n2 * (2520 / d2) ↔ n1 * d2 = n2 * d1) := by
  have e1 := div2520 h1 h1'
  have e2 := div2520 h2 h2'
  generalize 2520 / d1 = u at *
  generalize 2520 / d2 = v at *
  have m : 0 < d1 * d2 := Int.mul_pos (by omega) (by omega)
  have a : n1 * u * (d1 * d2) = 2520 * (n1 * d2) := by rw [← e1]; grind
  have b : n2 * v * (d1 * d2) = 2520 * (n2 * d1) := by rw [← e2]; grind
  constructor
  · rw [← Int.mul_lt_mul_right m, a, b]; omega
  · constructor
    · intro h; rw [h, b] at a; omega
    · intro h
      have : n1 * u * (d1 * d2) = n2 * v * (d1 * d2) := by rw [a, b, h]
      exact Int.eq_of_mul_eq_mul_right (by omega) this
theorem ltE_rk {a b : Ent} (ha : EOK a) (hb : EOK b) : ltE a b = decide (rk a < rk b) := by
  obtain ⟨a1, a2, a3, a4, a5, a6⟩ := ha
  obtain ⟨b1, b2, b3, b4, b5, b6⟩ := hb
  obtain ⟨c1, c2⟩ := cross_rk (n1 := a.n) (n2 := b.n) a3 a4 b3 b4
  unfold ltE cross rk
  generalize a.n * (2520 / a.d) = X at *
  generalize b.n * (2520 / b.d) = Y at *
  generalize a.n * b.d = P at *
  generalize b.n * a.d = Q at *
  by_cases h : P - Q = 0
  · rw [if_pos h]
    have e : X = Y := c2.mpr (by omega)
    by_cases hj : a.j = b.j
    · rw [if_pos hj]
      congr 1
      apply propext
      omega
    · rw [if_neg hj]
      congr 1
      apply propext
      omega
  · rw [if_neg h]
    congr 1
    apply propext
    have e : X ≠ Y := fun z => h (by have := c2.mp z; omega)
    constructor
    · intro z
      have : X < Y := c1.mpr (by omega)
      omega
    · intro z
      have : X < Y := by omega
      have := c1.mp this
      omega
theorem rk_ne {a b : Ent} (ha : EOK a) (hb : EOK b) (hj : a.j ≠ b.j) : rk a ≠ rk b := by
  obtain ⟨a1, a2, a3, a4, a5, a6⟩ := ha
  obtain ⟨b1, b2, b3, b4, b5, b6⟩ := hb
  unfold rk
  omega
theorem rk_mono {n m d j : Int} (h : n < m) (h1 : 1 ≤ d) (h2 : d ≤ 9) : rk ⟨n, d, j⟩ < rk ⟨m, d, j⟩ := by
  unfold rk
  have e := div2520 h1 h2
  have u : 0 < 2520 / d := by
    rcases Int.lt_trichotomy 0 (2520 / d) with z | z | z
    · exact z
    · rw [← z] at e; omega
    · have := Int.mul_neg_of_pos_of_neg (a := d) (by omega) z; omega
  generalize 2520 / d = v at *
  have : n * v < m * v := Int.mul_lt_mul_of_pos_right h u
  simp only
  omega
theorem rk_reach {k' bj k bi : Int} {i j : Nat} (hij : i ≠ j) (h1 : 1 ≤ bi) (h1' : bi ≤ 9) (h2 : 1 ≤ bj) (h2' : bj ≤ 9) (hk : EOK ⟨k, bi, i⟩) (hk' : EOK ⟨k', bj, j⟩) :
    rk ⟨k', bj, j⟩ < rk ⟨k, bi, i⟩ ↔ k' < reach bi bj k (decide (i ≤ j)) := by
  have z := ltE_rk hk' hk
  have y : rk ⟨k', bj, j⟩ < rk ⟨k, bi, i⟩ ↔ ltE ⟨k', bj, j⟩ ⟨k, bi, i⟩ = true := by rw [z]; simp
  rw [y]
  have hne : ¬ ((j : Int) = (i : Int)) := by omega
  have hl : ltE ⟨k', bj, j⟩ ⟨k, bi, i⟩ = true ↔ (k' * bi < k * bj ∨ (k' * bi = k * bj ∧ j < i)) := by
    unfold ltE cross
    simp only
    rw [if_neg hne]
    split
    · simp only [decide_eq_true_eq]; omega
    · simp only [decide_eq_true_eq]; omega
  rw [hl]
  by_cases c : i ≤ j
  · have hr : reach bi bj k (decide (i ≤ j)) = -((-k * bj) / bi) := by
      unfold reach
      rw [if_pos (by simpa using c), Int.fdiv_eq_ediv_of_nonneg _ (by omega)]
    rw [hr]
    have g : (-k * bj) / bi < -k' ↔ -k * bj < -k' * bi := Int.ediv_lt_iff_lt_mul (by omega)
    have n1 : -k * bj = -(k * bj) := Int.neg_mul ..
    have n2 : -k' * bi = -(k' * bi) := Int.neg_mul ..
    rw [n1, n2] at g
    rw [n1]
    omega
  · have hr : reach bi bj k (decide (i ≤ j)) = (k * bj) / bi + 1 := by
      unfold reach
      rw [if_neg (by simpa using c), Int.fdiv_eq_ediv_of_nonneg _ (by omega)]
    rw [hr]
    have g : k' ≤ (k * bj) / bi ↔ k' * bi ≤ k * bj := Int.le_ediv_iff_mul_le (by omega)
    omega
end Mine
end
section
open PySem PySem.W PyProof.Rows
namespace Mine
set_option maxRecDepth 100000
set_option maxHeartbeats 4000000
noncomputable def csum (c : Nat → Nat) : Nat → Nat
  | 0 => 0
  | j + 1 => csum c j + c j
noncomputable def upd (c : Nat → Nat) (i : Nat) : Nat → Nat := fun j => if j = i then c j + 1 else c j
theorem csum_upd_lo (c : Nat → Nat) (i : Nat) : ∀ n, n ≤ i → csum (upd c i) n = csum c n
  | 0, _ => rfl
  | n + 1, h => by simp only [csum, csum_upd_lo c i n (by omega)]; unfold upd; rw [if_neg (by omega)]
theorem csum_upd_hi (c : Nat → Nat) (i : Nat) : ∀ n, i < n → csum (upd c i) n = csum c n + 1
  | 0, h => by omega
  | n + 1, h => by
    simp only [csum]
    by_cases e : i = n
    · subst e
      rw [csum_upd_lo c i i (Nat.le_refl _)]; unfold upd; rw [if_pos rfl]; omega
    · rw [csum_upd_hi c i n (by omega)]; unfold upd; rw [if_neg (by omega)]; omega
noncomputable abbrev rw_ (rows : List Row) (j : Nat) : Row := rows.getD j row0
/-- the merge's state: c: how many of each row have gone -/
structure Mg (rows : List Row) (c : Nat → Nat) (told : List El) (xs : List Addr) (ent : Addr → Ent) : Prop where
  ok : ∀ x, EOK (ent x)
  heap : Hp (fun x => rk (ent x)) 0 xs
  nodup : (xs.map fun x => (ent x).j).Nodup
  ents : ∀ x ∈ xs, ∃ j, j < rows.length ∧ (c j : Int) < (rw_ rows j).n ∧ ent x = entOf rows c j
  all : ∀ j, j < rows.length → (c j : Int) < (rw_ rows j).n → ∃ x ∈ xs, ent x = entOf rows c j
  cle : ∀ j, j < rows.length → (c j : Int) ≤ (rw_ rows j).n
  tlen : told.length = csum c rows.length
  tin : ∀ j, j < rows.length → ∀ q : Nat, q < c j → (j, (rw_ rows j).f + (q : Int)) ∈ told
  tpl : ∀ (p : Nat) (e : El), told[p]? = some e → place rows e.1 e.2 = p ∧ e.1 < rows.length ∧ (rw_ rows e.1).f ≤ e.2 ∧ e.2 < (rw_ rows e.1).f + (rw_ rows e.1).n
  less : ∀ a b, a < rows.length → b < rows.length → 0 < c a → (c b : Int) < (rw_ rows b).n → rk ⟨(rw_ rows a).f + (c a : Int) - 1, (rw_ rows a).b, a⟩ < rk (entOf rows c b)
theorem eokOf {rows : List Row} (hok : RowsOK rows) {j : Nat} (hj : j < rows.length) {n : Int} (h1 : (rw_ rows j).f - 1 ≤ n) (h2 : n ≤ (rw_ rows j).f + (rw_ rows j).n) : EOK ⟨n, (rw_ rows j).b, j⟩ := by
  have o := hok.get hj
  simp only [Row.OK] at o
  have := hok.2.1
  refine ⟨?_, ?_, ?_, ?_, ?_, ?_⟩ <;> simp only [rw_] at * <;> omega
theorem entOf_ok {rows : List Row} (hok : RowsOK rows) {c : Nat → Nat} {j : Nat} (hj : j < rows.length) (hc : (c j : Int) ≤ (rw_ rows j).n) : EOK (entOf rows c j) :=
  eokOf hok hj (by simp only [rw_]; omega) (by simp only [rw_] at *; omega)
/-- the place of the top -/
theorem Mg.place {rows : List Row} {c : Nat → Nat} {told : List El} {xs : List Addr} {ent : Addr → Ent} (M : Mg rows c told xs ent) (hok : RowsOK rows) {i : Nat} (hi : i < rows.length) (hci : (c i : Int) < (rw_ rows i).n)
    (hmin : ∀ x ∈ xs, rk (entOf rows c i) ≤ rk (ent x)) : Mine.place rows i ((rw_ rows i).f + (c i : Int)) = told.length := by
  have term : ∀ j, j < rows.length → pTerm rows i ((rw_ rows i).f + (c i : Int)) j = c j := by
    intro j hj
    have oi := hok.get hi
    have oj := hok.get hj
    simp only [Row.OK] at oi oj
    by_cases e : i = j
    · subst e
      rw [pTerm_self (by omega) (by simp only [rw_]; omega) (by simp only [rw_] at *; omega)]
      simp only [rw_]; omega
    · have Ei : EOK ⟨(rw_ rows i).f + (c i : Int), (rw_ rows i).b, i⟩ := entOf_ok hok hi (by omega)
      have lo : 0 < c j → (rw_ rows j).f + (c j : Int) - 1 < reach (rw_ rows i).b (rw_ rows j).b ((rw_ rows i).f + (c i : Int)) (decide (i ≤ j)) := fun h0 => by
        have Ej : EOK ⟨(rw_ rows j).f + (c j : Int) - 1, (rw_ rows j).b, j⟩ := eokOf hok hj (by omega) (by have := M.cle j hj; omega)
        exact (rk_reach e oi.1 oi.2.1 oj.1 oj.2.1 Ei Ej).mp (M.less j i hj hi h0 hci)
      have hiB : (c j : Int) < (rw_ rows j).n → reach (rw_ rows i).b (rw_ rows j).b ((rw_ rows i).f + (c i : Int)) (decide (i ≤ j)) ≤ (rw_ rows j).f + (c j : Int) := fun h0 => by
        obtain ⟨x, hx, ex⟩ := M.all j hj h0
        have m := hmin x hx
        rw [ex] at m
        have Ej : EOK ⟨(rw_ rows j).f + (c j : Int), (rw_ rows j).b, j⟩ := entOf_ok hok hj (by omega)
        have z := rk_reach e oi.1 oi.2.1 oj.1 oj.2.1 Ei Ej
        unfold entOf at m
        simp only [rw_] at *
        omega
      have cl := M.cle j hj
      unfold pTerm
      simp only [rw_] at *
      omega
  have sum : ∀ j, j ≤ rows.length → pUpto rows i ((rw_ rows i).f + (c i : Int)) j = (csum c j : Int) := by
    intro j
    induction j with
    | zero => intro _; rfl
    | succ j ih =>
      intro hj
      simp only [pUpto, csum]
      rw [ih (by omega), term j (by omega)]
      omega
  unfold Mine.place
  rw [sum _ (Nat.le_refl _), M.tlen]
theorem upd_self (c : Nat → Nat) (i : Nat) : upd c i i = c i + 1 := by unfold upd; rw [if_pos rfl]
theorem upd_ne (c : Nat → Nat) {i j : Nat} (h : j ≠ i) : upd c i j = c j := by unfold upd; rw [if_neg h]
theorem entOf_upd (rows : List Row) (c : Nat → Nat) {i j : Nat} (h : j ≠ i) : entOf rows (upd c i) j = entOf rows c j := by unfold entOf; rw [upd_ne c h]
/-- the step but for the heap -/
theorem Mg.step {rows : List Row} {c : Nat → Nat} {told : List El} {x0 : Addr} {t xs' : List Addr} {ent ent' : Addr → Ent} (M : Mg rows c told (x0 :: t) ent) (hok : RowsOK rows) {i : Nat} (hi : i < rows.length) (hci : (c i : Int) < (rw_ rows i).n)
    (h0 : ent x0 = entOf rows c i) (hok' : ∀ x, EOK (ent' x)) (heap' : Hp (fun x => rk (ent' x)) 0 xs') (nodup' : (xs'.map fun x => (ent' x).j).Nodup)
    (hsub : ∀ x ∈ t, x ∈ xs' ∧ ent' x = ent x)
    (hnew : (c i : Int) + 1 < (rw_ rows i).n → ∃ y ∈ xs', ent' y = entOf rows (upd c i) i)
    (hfrom : ∀ x ∈ xs', x ∈ t ∨ ((c i : Int) + 1 < (rw_ rows i).n ∧ ent' x = entOf rows (upd c i) i)) :
    Mg rows (upd c i) (told ++ [(i, (rw_ rows i).f + (c i : Int))]) xs' ent' := by
  have hmin : ∀ x ∈ x0 :: t, rk (entOf rows c i) ≤ rk (ent x) := fun x hx => by
    have z := top_min' M.heap hx
    have e : (x0 :: t).getD 0 0 = x0 := rfl
    rw [e, h0] at z
    exact z
  have hp := M.place hok hi hci hmin
  have tj : ∀ x ∈ t, (ent x).j ≠ (i : Int) := fun x hx e => by
    have nd := M.nodup
    rw [List.map_cons, List.nodup_cons] at nd
    apply nd.1
    rw [h0]
    exact List.mem_map.mpr ⟨x, hx, e⟩
  have tent : ∀ x ∈ t, ∃ j, j < rows.length ∧ (c j : Int) < (rw_ rows j).n ∧ ent x = entOf rows c j ∧ j ≠ i := fun x hx => by
    obtain ⟨j, a, b, e⟩ := M.ents x (List.mem_cons_of_mem _ hx)
    refine ⟨j, a, b, e, fun q => tj x hx ?_⟩
    rw [e, q]; rfl
  have oi := hok.get hi
  simp only [Row.OK] at oi
  refine ⟨hok', heap', nodup', ?_, ?_, ?_, ?_, ?_, ?_, ?_⟩
  · intro x hx
    rcases hfrom x hx with hx | ⟨hlt, e⟩
    · obtain ⟨j, a, b, e, ne⟩ := tent x hx
      exact ⟨j, a, by rw [upd_ne c ne]; exact b, by rw [(hsub x hx).2, e, entOf_upd rows c ne]⟩
    · exact ⟨i, hi, by rw [upd_self]; omega, e⟩
  · intro j hj hcj
    by_cases e : j = i
    · subst e
      rw [upd_self] at hcj
      exact hnew (by omega)
    · rw [upd_ne c e] at hcj
      obtain ⟨x, hx, ex⟩ := M.all j hj hcj
      rcases List.mem_cons.mp hx with rfl | hx
      · exfalso
        rw [h0] at ex
        have := congrArg Ent.j ex
        simp only [entOf] at this
        omega
      · exact ⟨x, (hsub x hx).1, by rw [(hsub x hx).2, ex, entOf_upd rows c e]⟩
  · intro j hj
    by_cases e : j = i
    · subst e; rw [upd_self]; omega
    · rw [upd_ne c e]; exact M.cle j hj
  · rw [List.length_append, M.tlen, csum_upd_hi c i _ hi]; rfl
  · intro j hj q hq
    rw [List.mem_append]
    by_cases e : j = i
    · subst e
      rw [upd_self] at hq
      by_cases e2 : q = c j
      · subst e2; right; exact List.mem_singleton.mpr rfl
      · left; exact M.tin j hj q (by omega)
    · rw [upd_ne c e] at hq
      left; exact M.tin j hj q hq
  · intro p e he
    by_cases hpl : p < told.length
    · rw [List.getElem?_append_left hpl] at he
      exact M.tpl p e he
    · rw [List.getElem?_append_right (by omega)] at he
      have : p - told.length = 0 := by
        rcases Nat.eq_zero_or_pos (p - told.length) with z | z
        · exact z
        · rw [List.getElem?_eq_none (by simp only [List.length_singleton]; omega)] at he; cases he
      rw [this] at he
      cases he
      refine ⟨?_, hi, by simp only; omega, by simp only; omega⟩
      simp only
      rw [hp]; omega
  · intro a b ha hb hca hcb
    have top : ∀ b, b < rows.length → b ≠ i → (c b : Int) < (rw_ rows b).n → rk (entOf rows c i) < rk (entOf rows c b) := fun b hb ne hcb => by
      obtain ⟨x, hx, ex⟩ := M.all b hb hcb
      have m := hmin x hx
      rw [ex] at m
      have n := rk_ne (entOf_ok hok hi (c := c) (by omega)) (entOf_ok hok hb (c := c) (by omega)) (by simp only [entOf]; omega)
      omega
    have ei : (rw_ rows i).f + (upd c i i : Int) - 1 = (rw_ rows i).f + (c i : Int) := by rw [upd_self]; omega
    have nxt : rk (entOf rows c i) < rk (entOf rows (upd c i) i) := by
      unfold entOf
      rw [upd_self]
      exact rk_mono (by omega) oi.1 oi.2.1
    by_cases ea : a = i
    · subst ea
      rw [ei]
      by_cases eb : b = a
      · subst eb
        exact nxt
      · rw [entOf_upd rows c eb]
        rw [upd_ne c eb] at hcb
        exact top b hb eb hcb
    · rw [upd_ne c ea] at hca ⊢
      by_cases eb : b = i
      · subst eb
        have z := M.less a b ha hi hca hci
        omega
      · rw [entOf_upd rows c eb]
        rw [upd_ne c eb] at hcb
        exact M.less a b ha hb hca hcb
theorem cmpEnt {ent : Addr → Ent} (h : ∀ x, EOK (ent x)) : (fun x y => ltE (ent x) (ent y)) = cmpR (fun x => rk (ent x)) := by
  funext x y
  exact ltE_rk (h x) (h y)
theorem Mg.top {rows : List Row} {c : Nat → Nat} {told : List El} {x0 : Addr} {t : List Addr} {ent : Addr → Ent} (M : Mg rows c told (x0 :: t) ent) : ∃ i, i < rows.length ∧ (c i : Int) < (rw_ rows i).n ∧ ent x0 = entOf rows c i :=
  M.ents x0 (List.mem_cons_self ..)
theorem Mg.rep {rows : List Row} {c : Nat → Nat} {told : List El} {x0 y : Addr} {t : List Addr} {ent : Addr → Ent} (M : Mg rows c told (x0 :: t) ent) (hok : RowsOK rows) {i : Nat} (hi : i < rows.length) (hci : (c i : Int) + 1 < (rw_ rows i).n)
    (h0 : ent x0 = entOf rows c i) (hy : y ∉ x0 :: t) :
    Mg rows (upd c i) (told ++ [(i, (rw_ rows i).f + (c i : Int))]) (repR (fun a b => ltE ((fun a => if a = y then entOf rows (upd c i) i else ent a) a) ((fun a => if a = y then entOf rows (upd c i) i else ent a) b)) y (x0 :: t)) (fun a => if a = y then entOf rows (upd c i) i else ent a) := by
  have okn : EOK (entOf rows (upd c i) i) := entOf_ok hok hi (by rw [upd_self]; omega)
  have ok' : ∀ x, EOK ((fun a => if a = y then entOf rows (upd c i) i else ent a) x) := fun x => by
    dsimp only
    split
    · exact okn
    · exact M.ok x
  have same : ∀ x ∈ x0 :: t, (fun a => if a = y then entOf rows (upd c i) i else ent a) x = ent x := fun x hx => by
    have e : x ≠ y := fun e => hy (e ▸ hx)
    exact if_neg e
  have ey : (fun a => if a = y then entOf rows (upd c i) i else ent a) y = entOf rows (upd c i) i := if_pos rfl
  have hp0 : Hp (fun x => rk ((fun a => if a = y then entOf rows (upd c i) i else ent a) x)) 0 (x0 :: t) := fun cc c0 cn cs => by
    have z := M.heap cc c0 cn cs
    have g : ∀ q, q < (x0 :: t).length → (fun a => if a = y then entOf rows (upd c i) i else ent a) ((x0 :: t).getD q 0) = ent ((x0 :: t).getD q 0) := fun q hq => same _ (getD_mem hq)
    have g1 := g cc cn
    have g2 := g ((cc - 1) / 2) (by omega)
    generalize (fun a => if a = y then entOf rows (upd c i) i else ent a) = E at *
    dsimp only at z ⊢
    rw [g1, g2]; exact z
  generalize hE : (fun a => if a = y then entOf rows (upd c i) i else ent a) = E at *
  rw [cmpEnt ok']
  obtain ⟨hh, pm⟩ := rep_ok (y := y) hp0 (by simp)
  rw [List.tail_cons] at pm
  have mem : ∀ x, x ∈ repR (cmpR fun x => rk (E x)) y (x0 :: t) ↔ x = y ∨ x ∈ t := fun x => by rw [pm.mem_iff, List.mem_cons]
  refine M.step hok hi (by omega) h0 ok' hh ?_ (fun x hx => ⟨(mem x).mpr (Or.inr hx), same x (List.mem_cons_of_mem _ hx)⟩) (fun _ => ⟨y, (mem y).mpr (Or.inl rfl), ey⟩) (fun x hx => ?_)
  · refine ((pm.map fun x => (E x).j).nodup_iff).mpr ?_
    have nd := M.nodup
    rw [List.map_cons, List.nodup_cons] at nd ⊢
    have em : t.map (fun x => (E x).j) = t.map (fun x => (ent x).j) := List.map_congr_left fun x hx => by rw [same x (List.mem_cons_of_mem _ hx)]
    rw [em, ey]
    refine ⟨?_, nd.2⟩
    have z := nd.1
    rw [h0] at z
    exact z
  · rcases (mem x).mp hx with rfl | hx
    · exact Or.inr ⟨hci, ey⟩
    · exact Or.inl hx
theorem Mg.pop {rows : List Row} {c : Nat → Nat} {told : List El} {x0 : Addr} {t : List Addr} {ent : Addr → Ent} (M : Mg rows c told (x0 :: t) ent) (hok : RowsOK rows) {i : Nat} (hi : i < rows.length) (hci : (c i : Int) < (rw_ rows i).n) (hci' : ¬ ((c i : Int) + 1 < (rw_ rows i).n))
    (h0 : ent x0 = entOf rows c i) :
    Mg rows (upd c i) (told ++ [(i, (rw_ rows i).f + (c i : Int))]) (popR (fun a b => ltE (ent a) (ent b)) (x0 :: t)) ent := by
  rw [cmpEnt M.ok]
  obtain ⟨hh, pm⟩ := pop_ok M.heap (by simp)
  rw [List.tail_cons] at pm
  refine M.step hok hi hci h0 M.ok hh ?_ (fun x hx => ⟨pm.mem_iff.mpr hx, rfl⟩) (fun z => absurd z hci') (fun x hx => Or.inl (pm.mem_iff.mp hx))
  refine ((pm.map fun x => (ent x).j).nodup_iff).mpr ?_
  have nd := M.nodup
  rw [List.map_cons, List.nodup_cons] at nd
  exact nd.2
theorem csum_zero : ∀ n, csum (fun _ => 0) n = 0
  | 0 => rfl
  | n + 1 => by simp [csum, csum_zero n]
theorem Mg.init {rows : List Row} (hok : RowsOK rows) {xs : List Addr} {ent : Addr → Ent} (ok : ∀ x, EOK (ent x)) (hl : xs.length = rows.length) (he : ∀ p, p < rows.length → ent (xs.getD p 0) = entOf rows (fun _ => 0) p) :
    Mg rows (fun _ => 0) [] (hfy (fun a b => ltE (ent a) (ent b)) (xs.length / 2) xs) ent := by
  rw [cmpEnt ok]
  obtain ⟨hh, pm⟩ := heapify_ok (r := fun x => rk (ent x)) xs
  have key : ∀ x ∈ xs, ∃ p, p < rows.length ∧ ent x = entOf rows (fun _ => 0) p := fun x hx => by
    obtain ⟨p, hp, e⟩ := List.mem_iff_getElem.mp hx
    refine ⟨p, by omega, ?_⟩
    rw [← he p (by omega), ← e]
    simp [List.getD_eq_getElem?_getD, hp]
  have npos : ∀ j, j < rows.length → ((0 : Nat) : Int) < (rw_ rows j).n := fun j hj => by
    have o := hok.get hj
    simp only [Row.OK] at o
    simp only [rw_]; omega
  refine ⟨ok, hh, ?_, ?_, ?_, ?_, ?_, ?_, ?_, ?_⟩
  · refine ((pm.map fun x => (ent x).j).nodup_iff).mpr ?_
    have em : xs.map (fun x => (ent x).j) = (List.range xs.length).map (fun p => ((p : Nat) : Int)) := by
      apply List.ext_getElem
      · simp
      · intro p h1 h2
        have hp : p < xs.length := by simpa using h1
        simp only [List.getElem_map, List.getElem_range]
        have z := he p (by omega)
        have g : xs.getD p 0 = xs[p] := by simp [List.getD_eq_getElem?_getD, hp]
        rw [g] at z
        rw [z]; rfl
    rw [em]
    rw [List.nodup_iff_pairwise_ne, List.pairwise_map]
    exact List.Pairwise.imp (fun h e => h (by omega)) (List.nodup_iff_pairwise_ne.mp List.nodup_range)
  · intro x hx
    obtain ⟨p, hp, e⟩ := key x (pm.mem_iff.mp hx)
    exact ⟨p, hp, npos p hp, e⟩
  · intro j hj _
    refine ⟨xs.getD j 0, pm.mem_iff.mpr (getD_mem (by omega)), he j hj⟩
  · intro j hj; have := npos j hj; omega
  · rw [csum_zero]; rfl
  · intro j hj q hq; omega
  · intro p e h; cases h
  · intro a b _ _ h; omega
end Mine
end
section
open PySem PySem.W PyProof.Rows
namespace Mine
set_option maxRecDepth 100000
set_option maxHeartbeats 4000000
theorem csum_le {rows : List Row} {c : Nat → Nat} (h : ∀ j, j < rows.length → (c j : Int) ≤ (rw_ rows j).n) : ∀ j, j ≤ rows.length → (csum c j : Int) ≤ ((rows.take j).map (·.n)).sum
  | 0, _ => by simp [csum]
  | j + 1, hj => by
    have := csum_le h j (by omega)
    have := h j (by omega)
    rw [sumTake_succ rows (by omega)]
    simp only [csum, rw_] at *
    omega
theorem csum_lt {rows : List Row} {c : Nat → Nat} (h : ∀ j, j < rows.length → (c j : Int) ≤ (rw_ rows j).n) {i : Nat} (hci : (c i : Int) < (rw_ rows i).n) : ∀ j, i < j → j ≤ rows.length → (csum c j : Int) < ((rows.take j).map (·.n)).sum
  | 0, hi, _ => by omega
  | j + 1, hi, hj => by
    rw [sumTake_succ rows (by omega)]
    have hj' := h j (by omega)
    by_cases e : i = j
    · subst e
      have := csum_le h i (by omega)
      simp only [csum, rw_] at *
      omega
    · have := csum_lt h hci j (by omega) (by omega)
      simp only [csum, rw_] at *
      omega
theorem Mg.told_lt {rows : List Row} {c : Nat → Nat} {told : List El} {x0 : Addr} {t : List Addr} {ent : Addr → Ent} (M : Mg rows c told (x0 :: t) ent) : (told.length : Int) < total rows := by
  obtain ⟨i, hi, hci, _⟩ := M.top
  have z := csum_lt M.cle hci rows.length hi (Nat.le_refl _)
  rw [List.take_length] at z
  rw [M.tlen]; exact z
theorem csum_eq {rows : List Row} {c : Nat → Nat} (h : ∀ j, j < rows.length → (c j : Int) = (rw_ rows j).n) : ∀ j, j ≤ rows.length → (csum c j : Int) = ((rows.take j).map (·.n)).sum
  | 0, _ => by simp [csum]
  | j + 1, hj => by
    have := csum_eq h j (by omega)
    have := h j (by omega)
    rw [sumTake_succ rows (by omega)]
    simp only [csum, rw_] at *
    omega
theorem Mg.full {rows : List Row} {c : Nat → Nat} {told : List El} {ent : Addr → Ent} (M : Mg rows c told [] ent) {j : Nat} (hj : j < rows.length) : (c j : Int) = (rw_ rows j).n := by
  have a := M.cle j hj
  by_cases h : (c j : Int) < (rw_ rows j).n
  · obtain ⟨x, hx, _⟩ := M.all j hj h
    cases hx
  · omega
theorem Mg.told_len {rows : List Row} {c : Nat → Nat} {told : List El} {ent : Addr → Ent} (M : Mg rows c told [] ent) : (told.length : Int) = total rows := by
  have z := csum_eq (fun j hj => M.full hj) rows.length (Nat.le_refl _)
  rw [List.take_length] at z
  rw [M.tlen]; exact z
theorem mg_due {rows : List Row} (hok : RowsOK rows) {c : Nat → Nat} {told : List El} {ent : Addr → Ent} (M : Mg rows c told [] ent) : dAll rows rows.length = told.map some := by
  have inT : ∀ j, j < rows.length → ∀ q : Nat, (q : Int) < (rw_ rows j).n → told[(place rows j ((rw_ rows j).f + (q : Int))).toNat]? = some (j, (rw_ rows j).f + (q : Int)) := by
    intro j hj q hq
    have m := M.tin j hj q (by have := M.full hj; omega)
    obtain ⟨p, hp, e⟩ := List.mem_iff_getElem.mp m
    have e' : told[p]? = some (j, (rw_ rows j).f + (q : Int)) := by rw [List.getElem?_eq_getElem hp, e]
    have z := (M.tpl p _ e').1
    simp only at z
    rw [z, Int.toNat_natCast]; exact e'
  have pl : ∀ j, j < rows.length → ∀ q : Nat, (q : Int) < (rw_ rows j).n → (place rows j ((rw_ rows j).f + (q : Int))).toNat < (total rows).toNat := by
    intro j hj q hq
    have := place_range hok hj (k := (rw_ rows j).f + (q : Int)) (by simp only [rw_]; omega) (by simp only [rw_] at *; omega)
    omega
  have rowA : ∀ j, j < rows.length → ∀ D : List (Option El), (∀ (p : Nat) (e : El), D[p]? = some (some e) → told[p]? = some e) → ∀ m : Nat, (m : Int) ≤ (rw_ rows j).n → ∀ (p : Nat) (e : El), (dRow rows j m D)[p]? = some (some e) → told[p]? = some e := by
    intro j hj D hD m
    induction m with
    | zero => intro _ p e h; exact hD p e h
    | succ m ih =>
      intro hm p e h
      simp only [dRow] at h
      by_cases c : (place rows j ((rows.getD j row0).f + (m : Int))).toNat = p
      · subst c
        rw [List.getElem?_set] at h
        rw [if_pos rfl] at h
        split at h
        · cases h; exact inT j hj m (by omega)
        · cases h
      · rw [List.getElem?_set_ne c] at h
        exact ih (by omega) p e h
  have allA : ∀ J, J ≤ rows.length → ∀ (p : Nat) (e : El), (dAll rows J)[p]? = some (some e) → told[p]? = some e := by
    intro J
    induction J with
    | zero => intro _ p e h; simp only [dAll, List.getElem?_replicate] at h; split at h <;> cases h
    | succ J ih =>
      intro hJ
      have o := hok.get (j := J) (by omega)
      simp only [Row.OK] at o
      exact rowA J (by omega) _ (ih (by omega)) _ (by simp only [rw_]; omega)
  have keepRow : ∀ j (D : List (Option El)) (m : Nat) (p : Nat), (∃ e, D[p]? = some (some e)) → ∃ e, (dRow rows j m D)[p]? = some (some e) := by
    intro j D m p h
    induction m with
    | zero => exact h
    | succ m ih =>
      obtain ⟨e, ih⟩ := ih
      simp only [dRow]
      by_cases c : (place rows j ((rows.getD j row0).f + (m : Int))).toNat = p
      · subst c
        have : (place rows j ((rows.getD j row0).f + (m : Int))).toNat < (dRow rows j m D).length := by
          rcases Nat.lt_or_ge (place rows j ((rows.getD j row0).f + (m : Int))).toNat (dRow rows j m D).length with z | z
          · exact z
          · rw [List.getElem?_eq_none z] at ih; cases ih
        exact ⟨_, List.getElem?_set_self this⟩
      · exact ⟨e, by rw [List.getElem?_set_ne c]; exact ih⟩
  have rowB : ∀ j, j < rows.length → ∀ D : List (Option El), D.length = (total rows).toNat → ∀ m : Nat, (m : Int) ≤ (rw_ rows j).n → ∀ q : Nat, q < m → ∃ e, (dRow rows j m D)[(place rows j ((rw_ rows j).f + (q : Int))).toNat]? = some (some e) := by
    intro j hj D hD m
    induction m with
    | zero => intro _ q hq; omega
    | succ m ih =>
      intro hm q hq
      simp only [dRow]
      have hl : (dRow rows j m D).length = (total rows).toNat := by rw [dRow_length, hD]
      by_cases c : q = m
      · subst c
        exact ⟨_, List.getElem?_set_self (by rw [hl]; exact pl j hj q (by omega))⟩
      · obtain ⟨e, he⟩ := ih (by omega) q (by omega)
        by_cases c2 : (place rows j ((rows.getD j row0).f + (m : Int))).toNat = (place rows j ((rw_ rows j).f + (q : Int))).toNat
        · rw [← c2]
          exact ⟨_, List.getElem?_set_self (by rw [hl]; exact pl j hj m (by omega))⟩
        · exact ⟨e, by rw [List.getElem?_set_ne c2]; exact he⟩
  have allB : ∀ J, J ≤ rows.length → ∀ j, j < J → ∀ q : Nat, (q : Int) < (rw_ rows j).n → ∃ e, (dAll rows J)[(place rows j ((rw_ rows j).f + (q : Int))).toNat]? = some (some e) := by
    intro J
    induction J with
    | zero => intro _ j hj; omega
    | succ J ih =>
      intro hJ j hj q hq
      have o := hok.get (j := J) (by omega)
      simp only [Row.OK] at o
      simp only [dAll]
      by_cases c : j = J
      · subst c
        exact rowB j (by omega) _ (dAll_length rows j) _ (by simp only [rw_]; omega) q (by simp only [rw_] at hq; omega)
      · exact keepRow J _ _ _ (ih (by omega) j (by omega) q hq)
  apply List.ext_getElem?
  intro p
  rw [List.getElem?_map]
  by_cases hp : p < told.length
  · have he : told[p]? = some told[p] := List.getElem?_eq_getElem hp
    obtain ⟨a, b, d, g⟩ := M.tpl p _ he
    have q0 : ((told[p].2 - (rw_ rows told[p].1).f).toNat : Int) = told[p].2 - (rw_ rows told[p].1).f := by omega
    obtain ⟨e, h⟩ := allB rows.length (Nat.le_refl _) told[p].1 b (told[p].2 - (rw_ rows told[p].1).f).toNat (by omega)
    rw [q0] at h
    have q1 : (rw_ rows told[p].1).f + (told[p].2 - (rw_ rows told[p].1).f) = told[p].2 := by omega
    rw [q1, a, Int.toNat_natCast] at h
    have z := allA rows.length (Nat.le_refl _) p e h
    rw [h, z]; rfl
  · have tl := M.told_len
    rw [List.getElem?_eq_none (by rw [dAll_length]; omega), List.getElem?_eq_none (by omega)]; rfl
end Mine
end
section
open PySem PySem.W PyProof.Rows
namespace Mine
set_option maxRecDepth 100000
set_option maxHeartbeats 4000000
section
variable {prog : Program} {w : World} {A : Around} {E : Value → Shared → Prop} {s : Shared} {env : Env}
theorem neEmpty {H EL : Addr} {xs : List Addr} {Q : Value → Shared → Prop} (hu : A.units < cLine) (hl : LOf s.heap H (refs xs)) (he : LOf s.heap EL #[]) (h : Q (.bool (!xs.isEmpty)) s) : wpAny (model prog w) A (compareOp .NotEq (.ref H) (.ref EL)) Q E s := by
  cases xs with
  | nil => exact SeqAt.RcNeAt.lists (e := fun _ => true) hl.isList he.isList rfl hu (fun j h1 _ => by simp [refs] at h1) prog w E Q h
  | cons x t => exact SeqAt.RcNeAt.lists_lengths hl.isList he.isList (by simp [refs]) hu prog w E Q h
theorem eqElem {rows : List Row} {a1 a2 : Addr} {e : El} (hu : A.units < cLine) (h1 : ElemAt rows s.heap a1 e) (h2 : ElemAt rows s.heap a2 e) : SeqAt.EqAt A s (.ref a1) (.ref a2) true := by
  by_cases q : a1 = a2
  · subst q
    intro prog w E Q hq
    unfold eqBool
    refine wpAny_holding ?_
    rw [if_pos (by simp)]
    exact wpAny_bind (wpAny_rule (wpAny_pure hq))
  · obtain ⟨t1, t2, t3, l1⟩ := h1
    obtain ⟨u1, u2, u3, l2⟩ := h2
    have z := SeqAt.RcAt.lists (A := A) (e := fun _ => true) l1.isList l2.isList rfl hu (fun j h1 h2 => by
      have : j = 0 ∨ j = 1 ∨ j = 2 := by simp at h1; omega
      rcases this with rfl | rfl | rfl
      · have y := (MeetsSeq.EqGives.int e.2 e.2 t1 u1).at A.in1 s
        simpa using y
      · have y := (MeetsSeq.EqGives.int (rows.getD e.1 row0).b (rows.getD e.1 row0).b t2 u2).at A.in1 s
        rw [beq_self_eq_true] at y
        exact y
      · have y := (MeetsSeq.EqGives.int (e.1 : Int) (e.1 : Int) t3 u3).at A.in1 s
        rw [beq_self_eq_true] at y
        exact y)
    exact SeqAt.EqAt.of_refs q z
theorem eqTold {rows : List Row} {X Y : Addr} {i1 i2 : Array Value} {told : List El} {Q : Value → Shared → Prop} (hu : A.units + 1 < cLine) (h1 : LOf s.heap X i1) (h2 : LOf s.heap Y i2) (d1 : DueOK rows s.heap i1 (told.map some)) (d2 : DueOK rows s.heap i2 (told.map some))
    (h : Q (.bool true) s) : wpAny (model prog w) A (compareOp .Eq (.ref X) (.ref Y)) Q E s := by
  have hsz : i1.size = i2.size := by rw [d1.1, d2.1]
  refine SeqAt.eq_listAt (e := fun _ => true) h1.isList h2.isList hsz (by omega) (fun j j1 j2 => ?_) ?_
  · have jt : j < told.length := by have := d1.1; rw [List.length_map] at this; omega
    obtain ⟨a1, e1, m1⟩ := d1.2 j told[j] (by rw [List.getElem?_map, List.getElem?_eq_getElem jt]; rfl)
    obtain ⟨a2, e2, m2⟩ := d2.2 j told[j] (by rw [List.getElem?_map, List.getElem?_eq_getElem jt]; rfl)
    have x1 : i1[j] = Value.ref a1 := by rw [Array.getElem?_eq_getElem j1] at e1; exact Option.some.inj e1
    have x2 : i2[j] = Value.ref a2 := by rw [Array.getElem?_eq_getElem j2] at e2; exact Option.some.inj e2
    rw [x1, x2]
    exact eqElem (show A.units + 1 < cLine from hu) m1 m2
  · have : ((List.range i1.size).all fun _ => true) = true := by simp
    rw [this]; exact h
end
theorem DueOK.push {rows : List Row} {h : Heap} {items : Array Value} {told : List El} (x : DueOK rows h items (told.map some)) {a : Addr} {e : El} (ha : ElemAt rows h a e) : DueOK rows h (items.push (.ref a)) ((told ++ [e]).map some) := by
  have hs := x.1
  rw [List.length_map] at hs
  refine ⟨by simp [hs], fun p e' hp => ?_⟩
  rw [List.getElem?_map] at hp
  by_cases c : p < told.length
  · rw [List.getElem?_append_left c] at hp
    obtain ⟨b, h1, h2⟩ := x.2 p e' (by rw [List.getElem?_map]; exact hp)
    exact ⟨b, by rw [Array.getElem?_push_lt (by omega)]; rw [Array.getElem?_eq_getElem (by omega)] at h1; exact h1, h2⟩
  · rw [List.getElem?_append_right (by omega)] at hp
    have z : p - told.length = 0 := by
      rcases Nat.eq_zero_or_pos (p - told.length) with z | z
      · exact z
      · rw [List.getElem?_eq_none (by simp only [List.length_singleton]; omega)] at hp; cases hp
    have pe : p = items.size := by omega
    rw [z] at hp
    cases hp
    subst pe
    exact ⟨a, Array.getElem?_push_size, ha⟩
theorem repR_length (cmp : Addr → Addr → Bool) (y : Addr) {xs : List Addr} (h : 0 < xs.length) : (repR cmp y xs).length = xs.length := by
  unfold repR
  rw [siftup_length (by simpa using h)]; simp
theorem popR_length (cmp : Addr → Addr → Bool) (xs : List Addr) : (popR cmp xs).length ≤ xs.length := by
  unfold popR
  split
  · simp
  · rw [siftup_length (by simp; omega)]; simp
theorem popR_mem {cmp : Addr → Addr → Bool} {xs : List Addr} {S : Addr → Prop} (h : ∀ x ∈ xs, S x) : ∀ x ∈ popR cmp xs, S x := by
  unfold popR
  split
  · intro x hx; cases hx
  · rename_i hl
    have hne : xs ≠ [] := fun e => by rw [e] at hl; simp at hl
    refine siftup_mem (by simp; omega) (set_all (fun x hx => h x (List.dropLast_subset _ hx)) (h _ ?_))
    rw [List.getLastD_eq_getLast?, List.getLast?_eq_some_getLast hne]
    exact List.getLast_mem hne
theorem repR_mem {cmp : Addr → Addr → Bool} {xs : List Addr} {y : Addr} {S : Addr → Prop} (hne : 0 < xs.length) (h : ∀ x ∈ xs, S x) (hy : S y) : ∀ x ∈ repR cmp y xs, S x := by
  unfold repR
  exact siftup_mem (by simpa using hne) (set_all h hy)
theorem newEnt {w : World} {A : Around} {s : Shared} {L N t : Nat} {pm : Value} {m : Str → Option Value} {j k b : Int} {tj tk tb : Tok} {p1 p2 p3 p4 p5 p6 p7 p8 p9 p10 p11 p12 : Pos} {kk kk' : Nat} {Q E : Value → Shared → Prop} (R : Room A 500 1000)
    (KB : KBase w s.heap N t) (c2 : s.heap.IsCell (L + 1 + 1) (some (.ref (N + 60)))) (ns : s.heap.Ns L m) (mk : m "k" = some (.int k tk)) (mb : m "below" = some (.int b tb)) (mj : m "j" = some (.int j tj))
    (h : ∀ x h' t', StIn s.heap h' → s.heap.get? x = none → (∀ f, (∀ a o, s.heap.get? a = none → h'.get? a = some o → f.get? a = some o) → EntAt f (N + 60) x ⟨k + 1, b, j⟩) → Q (.ref x) { s with heap := h', toks := t' }) :
    wpAny (model PySem.Challenge.pw_mg0026_01 w) A (eval (.List [.Call (.Name "key" p1) [.List [.BinOp (.Name "k" p2) .Add (.Constant (.int 1) kk p3) p4, .Name "below" p5] p6] [] p7, .Name "j" p8, .BinOp (.Name "k" p9) .Add (.Constant (.int 1) kk' p10) p11] p12) (lawEnv pm L)) Q E s := by
  refine list3 ?_
  refine keyCall (N := N) (t := t) R (fun Q hQ => ldCell c2 hQ) ?_
  refine list2 ?_
  refine wpAny_BinOp (ldl ns mk (wpAny_Constant_int (PyProof.Rows.add_int ?_)))
  refine ldl ns mb ?_
  intro h1 (l1 : LOf h1 s.heap.objs.size _) (k1 : StIn s.heap h1) (s1 : h1.objs.size = s.heap.objs.size + 1)
  have na : s.heap.get? s.heap.objs.size = none := fresh_none (Nat.le_refl _)
  refine ⟨s.heap.objs.size, rfl, KB.keeps k1, fun i dd h2 t2 (k2 : StIn h1 h2) (ni : h1.get? i = none) hi => ?_⟩
  have k12 := k1.trans k2
  refine ldl (k12.ns ns) mj ?_
  refine wpAny_BinOp (ldl (k12.ns ns) mk (wpAny_Constant_int (PyProof.Rows.add_int ?_)))
  intro h3 (l3 : LOf h3 h2.objs.size _) (k3 : StIn h2 h3) (s3 : h3.objs.size = h2.objs.size + 1)
  have nx : h2.get? h2.objs.size = none := fresh_none (Nat.le_refl _)
  refine h _ h3 _ (k12.trans k3) (k12.none nx) (fun f hf => ?_)
  obtain ⟨n3, e3⟩ := l3
  obtain ⟨n1, e1⟩ := l1
  have x1 := hf _ _ (k12.none nx) e3
  have x2 := hf _ _ (k1.none ni) (k3 _ _ hi)
  have x3 := hf _ _ na (k3 _ _ (k2 _ _ e1))
  exact ⟨i, n3, _, _, x1, s.heap.objs.size, dd, n1, _, _, x2, x3⟩
end Mine
end
section
open PySem PySem.W PyProof.Rows
namespace Mine
set_option maxRecDepth 100000
set_option maxHeartbeats 4000000
noncomputable def loopBody : List Stmt := match (fnBody 13).getD 5 (.Pass ⟨0, 0, 0, 0⟩) with
  | .While _ body .. => body
  | _ => []
structure LInv (w : World) (rows : List Row) (L RA N t H TO : Nat) (f0 : Heap) (c : Nat → Nat) (told : List El) (xs : List Addr) (ent : Addr → Ent) (h : Heap) (m : Str → Option Value) (f : Heap) (items : Array Value) : Prop where
  fz : Fz f h [L, H, TO]
  ls : LawSt w f L RA N t rows
  st : StIn f0 f
  ns : h.Ns L m
  lh : LOf h H (refs xs)
  lt : LOf h TO items
  due : DueOK rows f items (told.map some)
  ents : ∀ x ∈ xs, EntAt f (N + 60) x (ent x)
  mg : Mg rows c told xs ent
  len : xs.length ≤ 9
  m1 : m "heap" = some (.ref H)
  m2 : m "told" = some (.ref TO)
theorem EOK.ok {e : Ent} (h : EOK e) : e.OK := ⟨h.1, h.2.1, h.2.2.1, h.2.2.2.1⟩
/-- behind a call that changed the heap's list alone -/
theorem back3 {f h h' : Heap} {L H TO : Addr} (F : Fz f h [L, H, TO]) (k : StIn (h.hide H) h') : StIn f (hideAll h' [L, H, TO]) := fun b o e => by
  have hb : b ∉ [L, H, TO] := fun m => by rw [F.no b m] at e; cases e
  have hH : b ≠ H := fun q => hb (by simp [q])
  exact hideAll_get _ (k b o ((Heap.hide_ne h hH).trans (F.st b o e))) hb
theorem ns_hide {h h' : Heap} {L H : Addr} {m : Str → Option Value} (n : h.Ns L m) (ne : L ≠ H) (k : StIn (h.hide H) h') : h'.Ns L m :=
  let ⟨o, es, ep, e, r⟩ := n; ⟨o, es, ep, k _ _ ((Heap.hide_ne h ne).trans e), r⟩
theorem lof_hide {h h' : Heap} {T H : Addr} {l : Array Value} (n : LOf h T l) (ne : T ≠ H) (k : StIn (h.hide H) h') : LOf h' T l :=
  let ⟨p, e⟩ := n; ⟨p, k _ _ ((Heap.hide_ne h ne).trans e)⟩
theorem Mg.rep' {rows : List Row} {c : Nat → Nat} {told : List El} {x0 y : Addr} {t : List Addr} {ent : Addr → Ent} (M : Mg rows c told (x0 :: t) ent) (hok : RowsOK rows) {i : Nat} (hi : i < rows.length) (hci : (c i : Int) + 1 < (rw_ rows i).n)
    (h0 : ent x0 = entOf rows c i) (hy : y ∉ x0 :: t) (ent' : Addr → Ent) (he : ent' = fun a => if a = y then entOf rows (upd c i) i else ent a) :
    Mg rows (upd c i) (told ++ [(i, (rw_ rows i).f + (c i : Int))]) (repR (fun a b => ltE (ent' a) (ent' b)) y (x0 :: t)) ent' := by
  subst he
  exact M.rep hok hi hci h0 hy
noncomputable def repBody : List Stmt := match loopBody.getD 5 (.Pass ⟨0, 0, 0, 0⟩) with
  | .If _ body .. => body
  | _ => []
noncomputable def popBody : List Stmt := match loopBody.getD 5 (.Pass ⟨0, 0, 0, 0⟩) with
  | .If _ _ orelse _ => orelse
  | _ => []
structure Mid (w : World) (rows : List Row) (L RA N t H TO : Nat) (f0 : Heap) (c : Nat → Nat) (told told1 : List El) (x0 : Addr) (tl : List Addr) (ent : Addr → Ent) (h : Heap) (m : Str → Option Value) (f : Heap) (items : Array Value) : Prop where
  fz : Fz f h [L, H, TO]
  ls : LawSt w f L RA N t rows
  st : StIn f0 f
  ns : h.Ns L m
  lh : LOf h H (refs (x0 :: tl))
  lt : LOf h TO items
  due : DueOK rows f items (told1.map some)
  ents : ∀ x ∈ x0 :: tl, EntAt f (N + 60) x (ent x)
  mg : Mg rows c told (x0 :: tl) ent
  len : (x0 :: tl).length ≤ 9
  m1 : m "heap" = some (.ref H)
  m2 : m "told" = some (.ref TO)
  m3 : m "top" = some (.ref x0)
theorem stBack {f h7 h8 h9 : Heap} {L H TO : Addr} (F : Fz f h7 [L, H, TO]) (k8 : StIn (h7.hide H) h8) (w9 : Heap.SameBut L h8 h9) : StIn f (hideAll h9 [L, H, TO]) := fun b o e => by
  have hb : b ∉ [L, H, TO] := fun m => by rw [F.no b m] at e; cases e
  have := back3 F k8 b o e
  exact hideAll_get _ ((w9.2 b (fun q => hb (by simp [q]))).trans (of_hideAll _ this)) hb
theorem rep_branch {w : World} {A : Around} {s : Shared} {rows : List Row} {L RA N t H TO i : Nat} {f0 : Heap} {c : Nat → Nat} {told : List El} {x0 : Addr} {tl : List Addr} {ent : Addr → Ent} {m : Str → Option Value} {f : Heap} {items : Array Value} {pm : Value} {tk tb tj : Tok}
    {Q : Flow → Shared → Prop} {E : Value → Shared → Prop} (R : Room A 320 310) (hok : RowsOK rows) (hLH : L ≠ H) (hLT : L ≠ TO) (hHT : H ≠ TO) (hi : i < rows.length) (hc : (c i : Int) + 1 < (rw_ rows i).n) (e0 : ent x0 = entOf rows c i)
    (I : Mid w rows L RA N t H TO f0 c told (told ++ [(i, (rw_ rows i).f + (c i : Int))]) x0 tl ent s.heap m f items)
    (mk : m "k" = some (.int ((rw_ rows i).f + (c i : Int)) tk)) (mb : m "below" = some (.int (rw_ rows i).b tb)) (mj : m "j" = some (.int (i : Nat) tj))
    (h : ∀ h' t' xs' ent' m' f', LInv w rows L RA N t H TO f0 (upd c i) (told ++ [(i, (rw_ rows i).f + (c i : Int))]) xs' ent' h' m' f' items → m' "gone" = some (.ref x0) → m' "top" = some (.ref x0) → Q .next { s with heap := h', toks := t' }) :
    wpAny (model PySem.Challenge.pw_mg0026_01 w) A (execs repBody (lawEnv pm L)) Q E s := by
  refine wpAny_execs_cons (wpAny_Assign_Name (callF2 (a := 35) (fun Q hQ => ldG I.ls.base I.fz.st (fun _ x => by simp only [globsAre] at x; simp [x]) hQ) ?_))
  refine ldl I.ns I.m1 ?_
  have L6 := I.ls.keeps I.fz.st
  refine newEnt (N := N) (t := t) (R.mono (by omega) (by omega)) L6.kb L6.c2 I.ns mk mb mj (fun y h7 t7 (k7 : StIn s.heap h7) (ny : s.heap.get? y = none) hy => ?_)
  have F7 := I.fz.ext k7
  have b7 := I.ls.base.keeps F7.st
  refine ⟨b7.f35.here, ?_⟩
  have yn : y ∉ x0 :: tl := fun hm => by
    obtain ⟨_, _, _, _, q, _⟩ := I.ents y hm
    have := I.fz.st _ _ q
    rw [ny] at this; cases this
  obtain ⟨ent', hE⟩ : ∃ e : Addr → Ent, e = fun a => if a = y then entOf rows (upd c i) i else ent a := ⟨_, rfl⟩
  have M' := I.mg.rep' hok hi hc e0 yn ent' hE
  have e2 : (⟨(rw_ rows i).f + (c i : Int) + 1, (rw_ rows i).b, (i : Nat)⟩ : Ent) = entOf rows (upd c i) i := by
    unfold entOf
    rw [upd_self]
    simp only [Ent.mk.injEq, and_true, rw_]
    omega
  have ey : ent' y = entOf rows (upd c i) i := by rw [hE]; exact if_pos rfl
  have eo : ∀ x ∈ x0 :: tl, ent' x = ent x := fun x hx => by
    have q : x ≠ y := fun q => yn (q ▸ hx)
    rw [hE]; exact if_neg q
  clear hE
  rw [e2] at hy
  have hfresh : ∀ f', (∀ a o, s.heap.get? a = none → h7.get? a = some o → f'.get? a = some o) → StIn f f' → ∀ x ∈ y :: x0 :: tl, EntAt f' (N + 60) x (ent' x) := fun f' h1 h2 x hx => by
    rcases List.mem_cons.mp hx with rfl | hx
    · rw [ey]; exact hy f' h1
    · rw [eo x hx]; exact (I.ents x hx).keeps h2
  have lh7 := k7.lof I.lh
  have oH : ∀ b, s.heap.get? b = none → b ≠ H := fun b h1 => by obtain ⟨o', ho'⟩ := I.lh.get; exact (ne_of_none ho' h1).symm
  have oL : ∀ b, s.heap.get? b = none → b ≠ L := fun b h1 => by obtain ⟨o', ho'⟩ := Ns_get I.ns; exact (ne_of_none ho' h1).symm
  have oT : ∀ b, s.heap.get? b = none → b ≠ TO := fun b h1 => by obtain ⟨o', ho'⟩ := I.lt.get; exact (ne_of_none ho' h1).symm
  have fg : StIn f (h7.hide H) := hide_st F7.st (I.fz.no H (by simp))
  have entg := hfresh (h7.hide H) (fun b o h1 h2 => (Heap.hide_ne h7 (oH b h1)).trans h2) fg
  refine heapreplace_spec (g := h7.hide H) (y := y) (S := fun x => x ∈ y :: x0 :: tl) (I.ls.base.keeps fg) (R.mono (by omega) (by omega)) (hide_in _ _) (Heap.hide_self _ _) lh7
    (cmpOK (I.ls.kb.keeps fg) ent' _ (fun x hx => ⟨entg x hx, (M'.ok x).ok⟩)) (fun x hx => List.mem_cons_of_mem _ hx) (List.mem_cons_self ..) (by have := I.len; omega) (by simp) (fun h8 t8 (k8 : StIn (h7.hide H) h8) l8 => ?_)
  have ns8 := ns_hide (k7.ns I.ns) hLH k8
  refine wpAny_storeName_local rfl ns8 (fun h9 ns9 w9 => ?_)
  refine wpAny_execs_nil ?_
  have F9 : StIn f (hideAll h9 [L, H, TO]) := stBack F7 k8 w9
  have new9 : ∀ b o, s.heap.get? b = none → h7.get? b = some o → (hideAll h9 [L, H, TO]).get? b = some o := fun b o h1 h2 =>
    hideAll_get _ ((w9.2 b (oL b h1)).trans (k8 b o ((Heap.hide_ne h7 (oH b h1)).trans h2))) (by simp [oL b h1, oH b h1, oT b h1])
  have ent9 := hfresh _ new9 F9
  refine h h9 _ _ ent' _ (hideAll h9 [L, H, TO]) ⟨Fz.top _ _, I.ls.keeps F9, I.st.trans F9, ns9, l8.same w9 hLH.symm, (lof_hide (k7.lof I.lt) hHT.symm k8).same w9 hLT.symm, I.due.keeps F9, ?_, M', by rw [repR_length _ _ (by simp)]; exact I.len, I.m1, I.m2⟩ rfl I.m3
  exact repR_mem (by simp) (fun x hx => ent9 x (List.mem_cons_of_mem _ hx)) (ent9 y (List.mem_cons_self ..))
theorem pop_branch {w : World} {A : Around} {s : Shared} {rows : List Row} {L RA N t H TO i : Nat} {f0 : Heap} {c : Nat → Nat} {told : List El} {x0 : Addr} {tl : List Addr} {ent : Addr → Ent} {m : Str → Option Value} {f : Heap} {items : Array Value} {pm : Value}
    {Q : Flow → Shared → Prop} {E : Value → Shared → Prop} (R : Room A 320 310) (hok : RowsOK rows) (hLH : L ≠ H) (hLT : L ≠ TO) (hHT : H ≠ TO) (hi : i < rows.length) (hc0 : (c i : Int) < (rw_ rows i).n) (hc : ¬ ((c i : Int) + 1 < (rw_ rows i).n)) (e0 : ent x0 = entOf rows c i)
    (I : Mid w rows L RA N t H TO f0 c told (told ++ [(i, (rw_ rows i).f + (c i : Int))]) x0 tl ent s.heap m f items)
    (h : ∀ h' t' xs' ent' m' f', LInv w rows L RA N t H TO f0 (upd c i) (told ++ [(i, (rw_ rows i).f + (c i : Int))]) xs' ent' h' m' f' items → m' "gone" = some (.ref x0) → m' "top" = some (.ref x0) → Q .next { s with heap := h', toks := t' }) :
    wpAny (model PySem.Challenge.pw_mg0026_01 w) A (execs popBody (lawEnv pm L)) Q E s := by
  refine wpAny_execs_cons (wpAny_Assign_Name (callF1 (a := 28) (fun Q hQ => ldG I.ls.base I.fz.st (fun _ x => by simp only [globsAre] at x; simp [x]) hQ) ?_))
  refine ldl I.ns I.m1 ?_
  have F7 := I.fz
  have b7 := I.ls.base.keeps F7.st
  refine ⟨b7.f28.here, ?_⟩
  have M' := I.mg.pop hok hi hc0 hc e0
  have fg : StIn f (s.heap.hide H) := hide_st F7.st (I.fz.no H (by simp))
  refine heappop_spec (g := s.heap.hide H) (S := fun x => x ∈ x0 :: tl) (I.ls.base.keeps fg) (R.mono (by omega) (by omega)) (hide_in _ _) (Heap.hide_self _ _) I.lh
    (cmpOK (I.ls.kb.keeps fg) ent _ (fun x hx => ⟨(I.ents x hx).keeps fg, (M'.ok x).ok⟩)) (fun x hx => hx) (by have := I.len; omega) (by simp) (fun h8 t8 (k8 : StIn (s.heap.hide H) h8) l8 => ?_)
  have ns8 := ns_hide I.ns hLH k8
  refine wpAny_storeName_local rfl ns8 (fun h9 ns9 w9 => ?_)
  refine wpAny_execs_nil ?_
  have F9 : StIn f (hideAll h9 [L, H, TO]) := stBack F7 k8 w9
  refine h h9 _ _ ent _ (hideAll h9 [L, H, TO]) ⟨Fz.top _ _, I.ls.keeps F9, I.st.trans F9, ns9, l8.same w9 hLH.symm, (lof_hide I.lt hHT.symm k8).same w9 hLT.symm, I.due.keeps F9, ?_, M', Nat.le_trans (popR_length _ _) I.len, I.m1, I.m2⟩ rfl I.m3
  exact popR_mem (fun x hx => (I.ents x hx).keeps F9)
theorem law_turn {w : World} {A : Around} {s : Shared} {rows : List Row} {L RA N t H TO : Nat} {f0 : Heap} {c : Nat → Nat} {told : List El} {x0 : Addr} {tl : List Addr} {ent : Addr → Ent} {m : Str → Option Value} {f : Heap} {items : Array Value} {pm : Value}
    {Q : Flow → Shared → Prop} {E : Value → Shared → Prop} (R : Room A 320 310) (hok : RowsOK rows) (hLH : L ≠ H) (hLT : L ≠ TO) (hHT : H ≠ TO)
    (I : LInv w rows L RA N t H TO f0 c told (x0 :: tl) ent s.heap m f items)
    (h : ∀ h' t' c' told' xs' ent' m' f' items', told'.length = told.length + 1 → LInv w rows L RA N t H TO f0 c' told' xs' ent' h' m' f' items' → Q .next { s with heap := h', toks := t' }) :
    wpAny (model PySem.Challenge.pw_mg0026_01 w) A (execs loopBody (lawEnv pm L)) Q E s := by
  obtain ⟨i, hi, hci, e0⟩ := I.mg.top
  obtain ⟨k0, ep0, tj, tm, x1, x2⟩ := I.ents x0 (List.mem_cons_self ..)
  rw [e0] at x1 x2
  obtain ⟨ok1, ok2, ok3, ok4, ok5, ok6⟩ := hok.get hi
  have rl := hok.2.1
  have no := I.fz.no
  have x0ne : ∀ z ∈ [L, H, TO], x0 ≠ z := fun z hz => ne_of_none x1 (no z hz)
  -- top = heap[0]
  refine wpAny_execs_cons (wpAny_Assign_Name (Subscript_ ?_))
  refine ldl I.ns I.m1 ?_
  refine wpAny_Constant_int ?_
  refine item_listL (l := (x0 :: tl).map Value.ref) I.lh.isList (by omega) (by omega) rfl ?_
  refine wpAny_storeName_local rfl I.ns (fun h1 ns1 w1 => ?_)
  have F1 : Fz f h1 [L, H, TO] := I.fz.same (x := L) (by simp) w1
  -- j = top[1]
  refine wpAny_execs_cons (wpAny_Assign_Name (Subscript_ ?_))
  refine ldl ns1 rfl ?_
  refine wpAny_Constant_int ?_
  refine itemA (l := [_, _, _]) ⟨_, F1.st _ _ x1, rfl, _, rfl⟩ (by omega) (by omega) rfl ?_
  refine wpAny_storeName_local rfl ns1 (fun h2 ns2 w2 => ?_)
  have F2 : Fz f h2 [L, H, TO] := F1.same (x := L) (by simp) w2
  -- k = top[2]
  refine wpAny_execs_cons (wpAny_Assign_Name (Subscript_ ?_))
  refine ldl ns2 rfl ?_
  refine wpAny_Constant_int ?_
  refine itemA (l := [_, _, _]) ⟨_, F2.st _ _ x1, rfl, _, rfl⟩ (by omega) (by omega) rfl ?_
  refine wpAny_storeName_local rfl ns2 (fun h3 ns3 w3 => ?_)
  have F3 : Fz f h3 [L, H, TO] := F2.same (x := L) (by simp) w3
  have L3 := I.ls.keeps F3.st
  -- below, first, many = rows[j]
  refine wpAny_execs_cons (Assign_Tuple (rowItem (c := L + 1) L3.ra hi rl L3.c1 ns3 rfl (fun ra rr => ?_)))
  obtain ⟨tb, tf, tn, rr⟩ := rr
  refine unpack3 R.handled rr.isList ns3 rfl rfl rfl rfl (fun h4 t4 ns4 w4 => ?_)
  have F4 : Fz f h4 [L, H, TO] := F3.extBut (x := L) (by simp) w4
  have lh4 : LOf h4 H (refs (x0 :: tl)) := (((I.lh.same w1 hLH.symm).same w2 hLH.symm).same w3 hLH.symm).ext w4 hLH.symm
  have lt4 : LOf h4 TO items := (((I.lt.same w1 hLT.symm).same w2 hLT.symm).same w3 hLT.symm).ext w4 hLT.symm
  -- told.append([k, below, j])
  refine wpAny_execs_cons (wpAny_Expr_any (meth1 PySem.slot_list_append PySem.type_list_append ?_))
  refine ldl ns4 I.m2 ?_
  refine ⟨TO, _, rfl, lt4, ?_⟩
  refine list3 ?_
  refine ldl ns4 rfl ?_
  refine ldl ns4 rfl ?_
  refine ldl ns4 rfl ?_
  intro h5 (l5 : LOf h5 h4.objs.size _) (k5 : StIn h4 h5) (s5 : h5.objs.size = h4.objs.size + 1)
  have na : h4.get? h4.objs.size = none := fresh_none (Nat.le_refl _)
  have itsz : items.size ≤ 45 := by
    have z := I.mg.told_lt
    have y := hok.total
    have d := I.due.1
    rw [List.length_map] at d
    omega
  refine appL (k5.lof lt4) (by omega) (fun h6 l6 w6 => ?_)
  have F5 := F4.ext k5
  have F6 : Fz f h6 [L, H, TO] := F5.same (x := TO) (by simp) w6
  generalize ha : h4.objs.size = a at *
  have aL : a ≠ L := by obtain ⟨o, ho⟩ := Ns_get ns4; exact (ne_of_none (a := L) ho na).symm
  have aH : a ≠ H := by obtain ⟨o, ho⟩ := lh4.get; exact (ne_of_none ho na).symm
  have aT : a ≠ TO := by obtain ⟨o, ho⟩ := lt4.get; exact (ne_of_none ho na).symm
  have el6 : ElemAt rows (hideAll h6 [L, H, TO]) a (i, (rw_ rows i).f + (c i : Int)) := by
    obtain ⟨n, e⟩ := l5.same w6 aT
    exact ⟨_, _, _, n, hideAll_get _ e (by simp [aL, aH, aT])⟩
  have due6 := (I.due.keeps F6.grow).push el6
  have ns6 := (k5.ns ns4).sameBut w6 hLT
  have lh6 : LOf h6 H (refs (x0 :: tl)) := (k5.lof lh4).same w6 hHT
  have F6' : Fz (hideAll h6 [L, H, TO]) h6 [L, H, TO] := Fz.top _ _
  have ff6 : StIn f (hideAll h6 [L, H, TO]) := F6.grow
  generalize hf6 : hideAll h6 [L, H, TO] = f6 at *
  have ls6 := I.ls.keeps ff6
  have ent6 : ∀ x ∈ x0 :: tl, EntAt f6 (N + 60) x (ent x) := fun x hx => (I.ents x hx).keeps ff6
  clear el6 F5 F6 l5 k5 s5
  have I6 : Mid w rows L RA N t H TO f0 c told (told ++ [(i, (rw_ rows i).f + (c i : Int))]) x0 tl ent h6 _ f6 _ := ⟨F6', ls6, I.st.trans ff6, ns6, lh6, l6, due6, ent6, I.mg, I.len, I.m1, I.m2, rfl⟩
  refine wpAny_execs_cons (wpAny_mono (Q := fun fl s'' => fl = .next ∧ ∃ h' t' c' told' xs' ent' m' f' items', s'' = { s with heap := h', toks := t' } ∧ told'.length = told.length + 1 ∧ LInv w rows L RA N t H TO f0 c' told' xs' ent' h' m' f' items' ∧ m' "gone" = some (.ref x0) ∧ m' "top" = some (.ref x0)) ?_ ?_ (fun _ _ x => x))
  · refine wpAny_If (wpAny_isTrue_Compare1 (wpAny_BinOp ?_))
    refine ldl ns6 rfl ?_
    refine wpAny_Constant_int ?_
    refine PyProof.Rows.add_int ?_
    refine wpAny_BinOp ?_
    refine ldl ns6 rfl ?_
    refine ldl ns6 rfl ?_
    refine PyProof.Rows.add_int ?_
    refine PyProof.Rows.lt_int ?_
    refine wpAny_truthy_bool ?_
    have eN : (entOf rows c i).n = (rw_ rows i).f + (c i : Int) := rfl
    by_cases hc : (c i : Int) + 1 < (rw_ rows i).n
    · rw [if_pos (by simp only [decide_eq_true_eq, eN, rw_] at *; omega)]
      exact rep_branch (s := { s with heap := h6, toks := _ }) R hok hLH hLT hHT hi hc e0 I6 rfl rfl rfl (fun h' t' xs' ent' m' f' LI g1 g2 => ⟨rfl, h', t', _, _, xs', ent', m', f', _, rfl, by simp, LI, g1, g2⟩)
    · rw [if_neg (by simp only [decide_eq_true_eq, eN, rw_] at *; omega)]
      exact pop_branch (s := { s with heap := h6, toks := _ }) R hok hLH hLT hHT hi hci hc e0 I6 (fun h' t' xs' ent' m' f' LI g1 g2 => ⟨rfl, h', t', _, _, xs', ent', m', f', _, rfl, by simp, LI, g1, g2⟩)
  · rintro fl s'' ⟨rfl, h7, t7, c', told', xs', ent', m', f', items', rfl, tl', LI, g1, g2⟩
    refine wpAny_execs_cons (wpAny_If (wpAny_isTrue_Compare1 ?_))
    refine ldl LI.ns g1 ?_
    refine ldl LI.ns g2 ?_
    refine wpAny_isNot_ref_self ?_
    refine wpAny_truthy_bool ?_
    rw [if_neg (by simp)]
    refine wpAny_execs_nil ?_
    refine wpAny_execs_nil ?_
    exact h h7 t7 c' told' xs' ent' m' f' items' tl' LI
end Mine
end
section
open PySem PySem.W PyProof.Rows
namespace Mine
set_option maxRecDepth 100000
set_option maxHeartbeats 4000000
theorem EntAt.hideNs {f : Heap} {L C x : Addr} {m : Str → Option Value} {a : Ent} (e : EntAt f C x a) (n : f.Ns L m) : EntAt (f.hide L) C x a := by
  obtain ⟨k, ep, tj, tm, x1, p, dd, e3, tn, td, x2, x3⟩ := e
  obtain ⟨o, es, q, ho, hd, _⟩ := n
  have ne : ∀ b ob, f.get? b = some ob → (∀ es q, ob.data ≠ .dict es q) → b ≠ L := fun b ob hb hn e => by
    subst e
    rw [ho] at hb
    cases hb
    exact hn _ _ hd
  refine ⟨k, ep, tj, tm, (Heap.hide_ne f (ne _ _ x1 ?_)).trans x1, p, dd, e3, tn, td, (Heap.hide_ne f (ne _ _ x2 ?_)).trans x2, (Heap.hide_ne f (ne _ _ x3 ?_)).trans x3⟩ <;> intro es q h <;> cases h
theorem exEnt {f : Heap} {C : Addr} {rows : List Row} {xs : List Addr} (hok : RowsOK rows) (he : ∀ p, p < rows.length → EntAt f C (xs.getD p 0) (entOf rows (fun _ => 0) p)) :
    ∃ ent : Addr → Ent, (∀ x, EOK (ent x)) ∧ ∀ p, p < rows.length → ent (xs.getD p 0) = entOf rows (fun _ => 0) p := by
  classical
  have ok0 : ∀ p, p < rows.length → EOK (entOf rows (fun _ => 0) p) := fun p hp => entOf_ok hok hp (by
    have o := hok.get hp
    simp only [Row.OK] at o
    simp only [rw_]; omega)
  refine ⟨fun a => if h : ∃ p, p < rows.length ∧ xs.getD p 0 = a then entOf rows (fun _ => 0) h.choose else entOf rows (fun _ => 0) 0, fun x => ?_, fun p hp => ?_⟩
  · dsimp only
    split
    · rename_i h
      exact ok0 _ h.choose_spec.1
    · exact ok0 0 (by have := hok.1; omega)
  · have h : ∃ q, q < rows.length ∧ xs.getD q 0 = xs.getD p 0 := ⟨p, hp, rfl⟩
    have e : h.choose = p := by
      obtain ⟨h1, h2⟩ := h.choose_spec
      generalize h.choose = q at *
      obtain ⟨_, _, _, _, x1, _⟩ := he p hp
      obtain ⟨_, _, _, _, y1, _⟩ := he q h1
      rw [h2, x1] at y1
      have z := Option.some.inj y1
      unfold oList at z
      simp only [Obj.mk.injEq, Data.seq.injEq, true_and, and_true] at z
      have := z.1
      simp [entOf] at this
      omega
    dsimp only
    rw [dif_pos h, e]
theorem bindL (pm : Value) (L : Addr) : closureFor hcScope (lawEnv pm L) = pure (hcCl L) := by rfl
theorem law_end {w : World} {A : Around} {s : Shared} {rows : List Row} {L RA N t H TO : Nat} {f0 : Heap} {c : Nat → Nat} {told : List El} {ent : Addr → Ent} {m : Str → Option Value} {f : Heap} {items : Array Value} {pm : Value}
    {Q : Flow → Shared → Prop} {E : Value → Shared → Prop} (R : Room A 320 310) (hok : RowsOK rows)
    (I : LInv w rows L RA N t H TO f0 c told [] ent s.heap m f items)
    (h : ∀ h' t', StIn f0 h' → Q (.ret (.bool true)) { s with heap := h', toks := t' }) :
    wpAny (model PySem.Challenge.pw_mg0026_01 w) A (execs ((fnBody 13).drop 6) (lawEnv pm L)) Q E s := by
  refine wpAny_execs_cons (wpAny_Return_some (wpAny_Compare1 ?_))
  refine ldl I.ns I.m2 ?_
  have L1 := I.ls.keeps I.fz.st
  refine callF1 (a := 82) (fun Q hQ => ldG L1.base (StIn.refl _) (fun _ x => by simp only [globsAre] at x; simp [x]) hQ) ?_
  refine ldCell L1.c1 ?_
  refine ⟨L1.base.f82.here, ?_⟩
  refine due_spec (g := s.heap) L1.base (R.mono (by omega) (by omega)) (StIn.refl _) L1.ra hok (fun h1 t1 D f1 items1 (k1 : StIn s.heap f1) (k2 : StIn f1 h1) _ l1 d1 => ?_)
  rw [mg_due hok I.mg] at d1
  refine eqTold (by have := R.units; simp [cLine]; omega) ((k1.trans k2).lof I.lt) l1 (I.due.keeps (I.fz.st.trans (k1.trans k2))) (d1.keeps k2) ?_
  exact h h1 t1 (I.st.trans (I.fz.st.trans (k1.trans k2)))
theorem law_loop {w : World} {A : Around} {s : Shared} {rows : List Row} {L RA N t H TO : Nat} {f0 : Heap} {c : Nat → Nat} {told : List El} {xs : List Addr} {ent : Addr → Ent} {m : Str → Option Value} {f : Heap} {items : Array Value} {pm : Value}
    {Q : Flow → Shared → Prop} {E : Value → Shared → Prop} (R : Room A 320 310) (hok : RowsOK rows) (hLH : L ≠ H) (hLT : L ≠ TO) (hHT : H ≠ TO)
    (I : LInv w rows L RA N t H TO f0 c told xs ent s.heap m f items)
    (h : ∀ h' t', StIn f0 h' → Q (.ret (.bool true)) { s with heap := h', toks := t' }) :
    wpAny (model PySem.Challenge.pw_mg0026_01 w) A (execs ((fnBody 13).drop 5) (lawEnv pm L)) Q E s := by
  refine wpAny_execs_cons (wpAny_While ?_)
  refine codeAny_whileLoop (fun n s' => ∃ h' t' c told xs ent m f items, s' = { s with heap := h', toks := t' } ∧ n = (total rows).toNat - told.length ∧ LInv w rows L RA N t H TO f0 c told xs ent h' m f items) ?_ ((total rows).toNat - told.length) ⟨s.heap, s.toks, c, told, xs, ent, m, f, items, rfl, rfl, I⟩
  rintro n s' ⟨h1, t1, c1, told1, xs1, ent1, m1, f1, items1, rfl, rfl, I1⟩
  refine wpAny_isTrue_Compare1 ?_
  refine ldl I1.ns I1.m1 ?_
  refine list0 (fun h2 l2 (k2 : StIn h1 h2) _ => ?_)
  refine neEmpty (by have := R.units; simp [cLine]; omega) (k2.lof I1.lh) l2 ?_
  refine wpAny_truthy_bool ?_
  have I2 : LInv w rows L RA N t H TO f0 c1 told1 xs1 ent1 h2 m1 f1 items1 := ⟨I1.fz.ext k2, I1.ls, I1.st, k2.ns I1.ns, k2.lof I1.lh, k2.lof I1.lt, I1.due, I1.ents, I1.mg, I1.len, I1.m1, I1.m2⟩
  cases xs1 with
  | nil =>
    rw [if_neg (by simp)]
    refine wpAny_execs_nil ?_
    exact law_end (s := { s with heap := h2, toks := _ }) R hok I2 h
  | cons x0 tl =>
    rw [if_pos (by simp)]
    have lt := I1.mg.told_lt
    refine law_turn (s := { s with heap := h2, toks := _ }) R hok hLH hLT hHT I2 (fun h' t' c' told' xs' ent' m' f' items' hl LI => ?_)
    exact ⟨(total rows).toNat - told'.length, by omega, h', t', c', told', xs', ent', m', f', items', rfl, rfl, LI⟩
end Mine
end
section
open PySem PySem.W PyProof.Rows
namespace Mine
set_option maxRecDepth 100000
set_option maxHeartbeats 4000000
theorem law_mid {w : World} {A : Around} {s : Shared} {rows : List Row} {L RA N t H : Nat} {f0 f1 : Heap} {xs : List Addr} {m : Str → Option Value} {pm : Value}
    {Q : Flow → Shared → Prop} {E : Value → Shared → Prop} (R : Room A 320 310) (hok : RowsOK rows) (hLH : L ≠ H) (F : Fz f1 s.heap [L, H]) (LS : LawSt w f1 L RA N t rows) (st : StIn f0 f1) (ns : s.heap.Ns L m) (m1 : m "heap" = some (.ref H)) (lh : LOf s.heap H (refs xs)) (hxl : xs.length = rows.length)
    (he : ∀ p, p < rows.length → EntAt f1 (N + 60) (xs.getD p 0) (entOf rows (fun _ => 0) p))
    (h : ∀ h' t', StIn f0 h' → Q (.ret (.bool true)) { s with heap := h', toks := t' }) :
    wpAny (model PySem.Challenge.pw_mg0026_01 w) A (execs ((fnBody 13).drop 3) (lawEnv pm L)) Q E s := by
  have rl := hok.2.1
  obtain ⟨ent, ok, ex⟩ := exEnt hok he
  have M := Mg.init hok ok hxl ex
  have inx : ∀ x ∈ xs, EntAt f1 (N + 60) x (ent x) := fun x hx => by
    obtain ⟨p, hp, e⟩ := List.mem_iff_getElem.mp hx
    have g : xs.getD p 0 = x := by simp [List.getD_eq_getElem?_getD, hp, e]
    have z := he p (by omega)
    rw [← ex p (by omega), g] at z
    exact z
  have fg : StIn f1 (s.heap.hide H) := hide_st F.st (F.no H (by simp))
  refine wpAny_execs_cons (wpAny_Expr_any (callF1 (a := 42) (fun Q hQ => ldG LS.base F.st (fun _ x => by simp only [globsAre] at x; simp [x]) hQ) ?_))
  refine ldl ns m1 ?_
  refine ⟨(LS.base.keeps F.st).f42.here, ?_⟩
  refine heapify_spec (g := s.heap.hide H) (S := fun x => x ∈ xs) (LS.base.keeps fg) (R.mono (by omega) (by omega)) (hide_in _ _) (Heap.hide_self _ _) lh
    (cmpOK (LS.kb.keeps fg) ent _ (fun x hx => ⟨(inx x hx).keeps fg, (ok x).ok⟩)) (fun x hx => hx) (by omega) (fun h2 t2 (k2 : StIn (s.heap.hide H) h2) l2 => ?_)
  have ns2 := ns_hide ns hLH k2
  refine wpAny_execs_cons (wpAny_Assign_Name (list0 (fun h3 l3 (k3 : StIn h2 h3) _ => ?_)))
  have nT : h2.get? h2.objs.size = none := fresh_none (Nat.le_refl _)
  generalize hTO : h2.objs.size = TO at *
  have hLT : L ≠ TO := by obtain ⟨o, ho⟩ := Ns_get ns2; exact ne_of_none (a := L) ho nT
  have hHT : H ≠ TO := by obtain ⟨o, ho⟩ := l2.get; exact ne_of_none ho nT
  refine wpAny_storeName_local rfl (k3.ns ns2) (fun h4 ns4 w4 => ?_)
  have fT : f1.get? TO = none := (fg.trans k2).none nT
  have F4 : Fz f1 h4 [L, H, TO] := ⟨fun b o e => by
      have bL : b ≠ L := fun q => by rw [q, F.no L (by simp)] at e; cases e
      exact (w4.2 b bL).trans (k3 _ _ (k2 _ _ (fg b o e))), fun x hx => by
      simp only [List.mem_cons, List.not_mem_nil, or_false] at hx
      rcases hx with rfl | rfl | rfl
      · exact F.no _ (by simp)
      · exact F.no _ (by simp)
      · exact fT⟩
  have lh4 : LOf h4 H (refs (hfy (fun a b => ltE (ent a) (ent b)) (xs.length / 2) xs)) := (k3.lof l2).same w4 hLH.symm
  have lt4 : LOf h4 TO #[] := l3.same w4 hLT.symm
  have lenP : (hfy (fun a b => ltE (ent a) (ent b)) (xs.length / 2) xs).Perm xs := by
    rw [cmpEnt ok]
    exact (heapify_ok xs).2
  refine law_loop (s := { s with heap := h4, toks := _ }) (TO := TO) R hok hLH hLT hHT (told := []) (items := #[]) (f := f1) (f0 := f0) ⟨F4, LS, st, ns4, lh4, lt4, ⟨rfl, fun p e q => by simp at q⟩, fun x hx => inx x (lenP.mem_iff.mp hx), M, by rw [lenP.length_eq]; omega, m1, rfl⟩ h
theorem law_tail {w : World} {A : Around} {s : Shared} {rows : List Row} {L RA N t : Nat} {f0 : Heap} {m : Str → Option Value} {pm : Value}
    {Q : Flow → Shared → Prop} {E : Value → Shared → Prop} (R : Room A 320 310) (hok : RowsOK rows) (F : Fz f0 s.heap [L]) (LS : LawSt w f0 L RA N t rows) (ns : s.heap.Ns L m)
    (h : ∀ h' t', StIn f0 h' → Q (.ret (.bool true)) { s with heap := h', toks := t' }) :
    wpAny (model PySem.Challenge.pw_mg0026_01 w) A (execs ((fnBody 13).drop 2) (lawEnv pm L)) Q E s := by
  have rl := hok.2.1
  have LS1 := LS.keeps F.st
  refine wpAny_execs_cons (rangeCompU (T := rows.length) (cl := hcCl L) (Ents rows (N + 60)) R.handled (bindL pm L) (by decide) rfl (by decide) rfl (by omega) ⟨[], rfl, rfl, fun p hp => by omega⟩ ?_ ?_ ?_ ?_ ns rfl rfl ?_)
  · rintro i f f' ys ⟨xs, e1, e2, e3⟩ k
    exact ⟨xs, e1, e2, fun p hp => (e3 p hp).keeps k⟩
  · rintro i f ys ⟨xs, rfl, e2, _⟩
    rw [refs_size]; exact e2
  · refine callT1 (T := "range") (fun Q hQ => ldB LS.base F.st (fun _ x => by simp only [globsAre] at x; simp [x]) (fun _ x => by simp only [bltsAre] at x; simp [x]) hQ) ?_
    refine callB1 (id := "len") (fun Q hQ => ldB LS.base F.st (fun _ x => by simp only [globsAre] at x; simp [x]) (fun _ x => by simp only [bltsAre] at x; simp [x]) hQ) ?_
    refine ldCell LS1.c1 ?_
    obtain ⟨items, hl, hsz⟩ := LS1.ra.len
    refine len_list hl (by omega) ?_
    rw [hsz]
    refine rangeIt (by omega) (by omega) (fun it h2 t2 (k2 : StIn s.heap h2) _ (n2 : s.heap.get? it = none) hit2 => ?_)
    exact ⟨it, h2, t2, rfl, rfl, k2, n2, hit2⟩
  · intro i h2 t2 C m2 ys f ti hi kf sf hP nsC mx Q' E' hq
    obtain ⟨xs, rfl, e2, e3⟩ := hP
    refine ent_turn (s := { s with heap := h2, toks := t2 }) (R.mono (by omega) (by omega)) (LS1.keeps (sf.trans kf)) hok nsC mx hi (fun x h3 t3 (k3 : StIn h2 h3) nx hx => ?_)
    refine hq _ h3 t3 k3 (fun f3 k4 hf3 => ?_)
    refine ⟨xs ++ [x], refs_push _ _, by simp [e2], fun p hp => ?_⟩
    by_cases q : p = i
    · subst q
      have g : (xs ++ [x]).getD p 0 = x := by rw [List.getD_eq_getElem?_getD, ← e2, List.getElem?_append_right (Nat.le_refl _)]; simp
      rw [g]
      exact hx f3 (Or.inr trivial) hf3
    · have g : (xs ++ [x]).getD p 0 = xs.getD p 0 := by rw [List.getD_eq_getElem?_getD, List.getD_eq_getElem?_getD, List.getElem?_append_left (by omega)]
      rw [g]
      exact (e3 p (by omega)).keeps k4
  · intro h2 t1 H ys f (w2 : Heap.ExtBut L f h2) (sf : StIn s.heap f) fH (nH : s.heap.get? H = none) ns2 lH hP
    obtain ⟨xs, rfl, e2, e3⟩ := hP
    have nsf : f.Ns L m := sf.ns ns
    have hLH : L ≠ H := by obtain ⟨o, ho⟩ := Ns_get ns; exact ne_of_none (a := L) ho nH
    have st1 : StIn f0 (f.hide L) := hide_st (F.st.trans sf) (F.no L (by simp))
    have F2 : Fz (f.hide L) h2 [L, H] := ⟨fun b o e => by
        have bL : b ≠ L := fun q => by rw [q, Heap.hide_self] at e; cases e
        exact w2 b o bL (hide_in f L b o e), fun x hx => by
        simp only [List.mem_cons, List.not_mem_nil, or_false] at hx
        rcases hx with rfl | rfl
        · exact Heap.hide_self _ _
        · exact (hide_in f L).none fH⟩
    exact law_mid (s := { s with heap := h2, toks := t1 }) R hok hLH F2 (LS.keeps st1) st1 ns2 rfl lH e2 (fun p hp => (e3 p hp).hideNs nsf) h
end Mine
end
section
open PySem PySem.W PySem.W.X PyProof.Rows
namespace Mine
set_option maxRecDepth 100000
set_option maxHeartbeats 4000000
noncomputable def CmpSpec (w : World) (T : KT) (n : Nat) : Prop := ∀ (s : Shared), KT.Holds s.heap 1 0 T → s.heap.objs.size = n → s.gens = #[] → ∀ (E : Value → Shared → Prop), wpAny (model PySem.Challenge.pw_mg0026_01 w) { handled := none, depth := 500, frames := none, guards := none, units := 1000 } (call (.ref 21) [.ref 63]) (Out (PK w.params n s) s) E s
theorem RowsAt.lists {h h' : Heap} {a : Addr} {rows : List Row} (x : RowsAt h a rows) (k : ∀ b items n, IsL h b items n → IsL h' b items n) : RowsAt h' a rows := by
  obtain ⟨as, ⟨n, e⟩, r1, r2⟩ := x
  exact ⟨as, ⟨n, k _ _ _ e⟩, r1, fun i hi => let ⟨t1, t2, t3, n', e'⟩ := r2 i hi; ⟨t1, t2, t3, n', k _ _ _ e'⟩⟩
theorem isL_ne {h : Heap} {b c : Addr} {items : Array Value} {n : Nat} {o : Obj} (e : IsL h b items n) (f : h.get? c = some o) (hd : ∀ i n, o.data ≠ .seq i n) : b ≠ c := fun q => by
  subst q
  rw [show h.get? b = _ from e] at f
  cases f
  exact hd _ _ rfl
theorem law_spec {w : World} {A : Around} {s : Shared} {T : KT} {items : Array Value} {pm63 : Value} {ps16 : Array Value} {Q : Value → Shared → Prop} {E : Value → Shared → Prop}
    (B16 : Base (s.heap.hide 16)) (X87 : FnAt s.heap 87 13 86) (fn21 : FnHere s.heap 21)
    (o2 : s.heap.get? (nat_lit 2) = some ⟨.none, none, .dict #[] 0, #[]⟩) (of : s.heap.get? (nat_lit 63) = some ⟨.type "function", none, .func (mkFd 9 62 pm63), #[]⟩) (oc : s.heap.get? (nat_lit 62) = some oCode)
    (h16 : s.heap.get? 16 = some (tableObj ps16)) (hct : isCodeTable s.heap 16) (hsz : s.heap.objs.size = 89) (hg : s.gens = #[])
    (hl : s.heap.IsList 88 items) (hi : ∀ v ∈ items, ∃ n t, v = .int n t) (hlen : items.size ≤ 63)
    (ZH : KT.Holds s.heap 1 0 T) (C : ∀ r, r ≤ 6 → CmpSpec w T (113 + 7 * r)) (R : Room A 310 200)
    (h : ∀ h' t', OldK s.heap h' → Q (.bool true) { s with heap := h', toks := t' }) :
    wpAny (model PySem.Challenge.pw_mg0026_01 w) A (call (.ref 87) [.ref 88]) Q E s := by
  have B := B16.keeps (hide_in s.heap 16)
  refine callLaw X87 B.lim R (by omega) ?_
  intro pm h0 t0 L hL ns0 c1 c2 k0 s0 R' E'
  rw [hsz] at hL
  subst hL
  -- rows = _law_rows([..])
  refine wpAny_execs_cons (wpAny_Assign_Name (callF1 (a := 70) (fun Q hQ => ldG B k0 (fun _ x => by simp only [globsAre] at x; simp [x]) hQ) ?_))
  refine nums_comp (s := { s with heap := h0, toks := t0 }) (y := "script") R'.handled rfl (by decide) rfl (by decide) rfl (k0.isList hl) hi hlen ns0 rfl rfl rfl rfl (fun h1 t1 D ys (k1 : StIn h0 h1) (s1 : h1.objs.size = h0.objs.size + 7) lD sm yl => ?_)
  refine ⟨(B.f70.keeps (k0.trans k1)).here, ?_⟩
  refine rows_spec B (R'.mono (by omega) (by omega)) (k0.trans k1) lD sm (by omega) (fun h2 t2 RA rows (k2 : StIn h1 h2) (s2 : h2.objs.size = h1.objs.size + 14 + 7 * (min 6 ys.size)) nRA ra hok => ?_)
  have k02 : StIn h0 h2 := k1.trans k2
  refine wpAny_storeName_cell (c := 89 + 1) rfl rfl rfl (c1.keeps k02) (fun h3 c13 w3 => ?_)
  -- key = cmp_to_key(_law_crosswise)
  have nc : ∀ c : Nat, 89 ≤ c → s.heap.get? c = none := fun c hc => fresh_none (by rw [hsz]; exact hc)
  have k3 : StIn s.heap h3 := (k0.trans k02).same (nc (89 + 1) (by decide)) w3
  have s3 : h3.objs.size = h2.objs.size := w3.1
  have r6 : min 6 ys.size ≤ 6 := by omega
  generalize min 6 ys.size = r at *
  have n3 : h3.objs.size = 113 + 7 * r := by omega
  have ra3 : RowsAt h3 RA rows := ra.lists (fun b its n e => by
    obtain ⟨o, ho, hd⟩ := c1.keeps k02
    exact (w3.2 b (isL_ne e ho (by rw [hd]; intro _ _ z; cases z))).trans e)
  refine wpAny_execs_cons (wpAny_Assign_Name (callF1 (a := 21) (fun Q hQ => ldG B k3 (fun _ x => by simp only [globsAre] at x; simp [x]) hQ) ?_))
  refine ldG B k3 (v := .ref 63) (fun _ x => by simp only [globsAre] at x; simp [x]) ?_
  refine ⟨let ⟨o, fd, e1, e2⟩ := fn21; ⟨o, fd, k3 _ _ e1, e2⟩, ?_⟩
  refine wpAny_max (R'.mono (by omega) (by omega)) (wpAny_mono (C r r6 { s with heap := h3, toks := t2 } (KT.Holds.keeps k3 ZH) n3 hg E') (fun v s' hv => ?_) fun _ _ x => x)
  obtain ⟨⟨rfl, ka, keep, e3, e4, e5⟩, old⟩ := hv.get
  obtain ⟨h4, g4, d4, t4, os4⟩ := s'
  simp only at e3 e4 e5 ka keep old
  subst e3 e4 e5
  have ra4 : RowsAt h4 RA rows := ra3.lists (fun b its n e => keep _ _ e (isL_ne e (k3 _ _ h16) (by intro _ _ z; cases z)))
  have c24 : h4.IsCell (89 + 1 + 1) none := by
    obtain ⟨o, ho, hd⟩ := c2.keeps k02
    exact ⟨o, keep _ _ ((w3.2 _ (by decide)).trans ho) (by decide), hd⟩
  have c14 : h4.IsCell (89 + 1) (some (.ref RA)) := by
    obtain ⟨o, ho, hd⟩ := c13
    exact ⟨o, keep _ _ ho (by decide), hd⟩
  have ns3 := (k02.ns ns0).sameBut w3 (show (89 : Addr) ≠ 89 + 1 by decide)
  have ns4 : h4.Ns 89 _ := let ⟨o, es, ep, e, rr⟩ := ns3; ⟨o, es, ep, keep _ _ e (by decide), rr⟩
  refine wpAny_storeName_cell (c := 89 + 1 + 1) rfl rfl rfl c24 (fun h5 c25 w5 => ?_)
  have k5 : ∀ b o, s.heap.get? b = some o → b ≠ 16 → h5.get? b = some o := fun b o e hb => by
    have hb' : b < s.heap.objs.size := Heap.lt_size e
    exact (w5.2 b (fun q => by rw [q, nc (89 + 1 + 1) (by decide)] at e; cases e)).trans (keep _ _ (k3 _ _ e) hb)
  have ns5 := ns4.sameBut w5 (show (89 : Addr) ≠ 89 + 1 + 1 by decide)
  have ra5 : RowsAt h5 RA rows := ra4.lists (fun b its n e => by
    obtain ⟨o, ho, hd⟩ := c24
    exact (w5.2 b (isL_ne e ho (by rw [hd]; intro _ _ z; cases z))).trans e)
  have c15 : h5.IsCell (89 + 1) (some (.ref RA)) := let ⟨o, ho, hd⟩ := c14; ⟨o, (w5.2 _ (by decide)).trans ho, hd⟩
  have ka5 : KAt w.params h5 (113 + 7 * r) t2 := by
    have ne : ∀ q, 1 ≤ q → 113 + 7 * r + q ≠ 89 + 1 + 1 := fun q hq => by omega
    exact ⟨(w5.2 _ (ne _ (by decide))).trans ka.o1, (w5.2 _ (ne _ (by decide))).trans ka.o15, (w5.2 _ (ne _ (by decide))).trans ka.o16, (w5.2 _ (ne _ (by decide))).trans ka.o23, (w5.2 _ (ne _ (by decide))).trans ka.o24,
      (w5.2 _ (ne _ (by decide))).trans ka.o39, (w5.2 _ (ne _ (by decide))).trans ka.o40, (w5.2 _ (ne _ (by decide))).trans ka.o59, (w5.2 _ (ne _ (by decide))).trans ka.o60, (w5.2 _ (ne _ (by decide))).trans ka.o61⟩
  have B5 : Base (h5.hide 89) := B16.keeps (fun b o e => by
    have hb : b ≠ 16 := fun q => by rw [q, Heap.hide_self] at e; cases e
    have e' := hide_in s.heap 16 b o e
    exact (Heap.hide_ne h5 (fun q => by rw [q, nc 89 (by decide)] at e'; cases e')).trans (k5 b o e' hb))
  have hide5 : ∀ b o, h5.get? b = some o → b ≠ 89 → (h5.hide 89).get? b = some o := fun b o e hb => (Heap.hide_ne h5 hb).trans e
  have ka6 : KAt w.params (h5.hide 89) (113 + 7 * r) t2 := by
    have ne : ∀ q, 1 ≤ q → 113 + 7 * r + q ≠ 89 := fun q hq => by omega
    exact ⟨hide5 _ _ ka5.o1 (ne _ (by decide)), hide5 _ _ ka5.o15 (ne _ (by decide)), hide5 _ _ ka5.o16 (ne _ (by decide)), hide5 _ _ ka5.o23 (ne _ (by decide)), hide5 _ _ ka5.o24 (ne _ (by decide)),
      hide5 _ _ ka5.o39 (ne _ (by decide)), hide5 _ _ ka5.o40 (ne _ (by decide)), hide5 _ _ ka5.o59 (ne _ (by decide)), hide5 _ _ ka5.o60 (ne _ (by decide)), hide5 _ _ ka5.o61 (ne _ (by decide))⟩
  have ra6 : RowsAt (h5.hide 89) RA rows := ra5.lists (fun b its n e => by
    obtain ⟨o, es, ep, ho, hd, _⟩ := ns5
    exact hide5 _ _ e (isL_ne e ho (by rw [hd]; intro _ _ z; cases z)))
  have c16 : (h5.hide 89).IsCell (89 + 1) (some (.ref RA)) := let ⟨o, ho, hd⟩ := c15; ⟨o, hide5 _ _ ho (by decide), hd⟩
  have c26 : (h5.hide 89).IsCell (89 + 1 + 1) (some (.ref (113 + 7 * r + 60))) := let ⟨o, ho, hd⟩ := c25; ⟨o, hide5 _ _ ho (by decide), hd⟩
  have old5 : ∀ b o, s.heap.get? b = some o → b ≠ 16 → (h5.hide 89).get? b = some o := fun b o e hb => hide5 _ _ (k5 b o e hb) (fun q => by rw [q, nc 89 (by decide)] at e; cases e)
  have KB6 : KBase w (h5.hide 89) (113 + 7 * r) t2 := ⟨old5 _ _ o2 (by decide), ka6, ⟨_, old5 _ _ of (by decide)⟩, old5 _ _ oc (by decide)⟩
  have a16 := old.old 16 _ (k3 _ _ h16)
  have x16 : ∃ vs, h4.get? 16 = some (tableObj (ps16 ++ vs)) := by
    rcases a16 with x | ⟨_, _, vs, more, hv, x⟩ | ⟨q, _⟩
    · exact ⟨#[], by rw [x]; simp⟩
    · have : vs = ps16 := by cases hv; rfl
      subst this
      exact ⟨more, x⟩
    · exact absurd q (by decide)
  obtain ⟨vs, x16⟩ := x16
  have y16 : (h5.hide 89).get? 16 = some (tableObj (ps16 ++ vs)) := hide5 _ _ ((w5.2 16 (by decide)).trans x16) (by decide)
  refine law_tail (s := { s with heap := h5, toks := t4 }) (f0 := h5.hide 89) (R'.mono (by omega) (by omega)) hok ⟨hide_in _ _, fun x hx => by
    rw [List.mem_singleton] at hx; subst hx; exact Heap.hide_self _ _⟩ ⟨KB6, ra6, c16, c26, B5⟩ ns5 (fun h6 t6 (k6 : StIn (h5.hide 89) h6) => ?_)
  refine h h6 t6 ⟨fun b o e => ?_, fun b o e => ?_⟩
  · by_cases hb : b = 16
    · subst hb
      rw [h16] at e
      cases e
      exact .inr (.inl ⟨hct, rfl, ps16, vs, rfl, k6 _ _ y16⟩)
    · exact .inl (k6 _ _ (old5 b o e hb))
  · by_cases hb : b = 16
    · subst hb
      exact ⟨_, k6 _ _ y16⟩
    · exact ⟨o, k6 _ _ (old5 b o e hb)⟩
end Mine
end
section
open PySem PySem.W PySem.W.X PyProof.Rows
namespace Mine
set_option maxRecDepth 100000
set_option maxHeartbeats 4000000
noncomputable def ob (K : Frag) (a : Addr) : Obj := (K.lookup a).getD { cls := .none, data := .plain }
noncomputable def pmOf (o : Obj) : Value := match o.data with
  | .func fd => fd.pyModule
  | _ => .none
noncomputable def esOf (o : Obj) : Array DictEntry := match o.data with
  | .dict es _ => es
  | _ => #[]
noncomputable def epOf (o : Obj) : Nat := match o.data with
  | .dict _ n => n
  | _ => 0
noncomputable def vsOf (o : Obj) : Array Value := match o.data with
  | .fields vs => vs
  | _ => #[]
noncomputable def tkOf (v : Option Value) : Tok := match v with
  | some (.str _ t) => t
  | _ => 0
noncomputable def strKey (e : DictEntry) : Bool := match e.key with
  | .str _ _ => true
  | _ => false
structure FnK (K : Frag) (f n cd : Nat) : Prop where
  a : K.lookup f = some (ob K f)
  b : (ob K f).data = .func (mkFd n cd (pmOf (ob K f)))
  c : K.lookup cd = some (ob K cd)
  d : (ob K cd).data = .fields (vsOf (ob K cd))
  e : (vsOf (ob K cd))[1]? = some (.str (fnNm n) (tkOf (vsOf (ob K cd))[1]?))
noncomputable def InBut (K : Frag) (g : Heap) : Prop := ∀ a o, a ≠ 16 → K.lookup a = some o → g.get? a = some o
theorem FnK.at {K : Frag} {g : Heap} {f n cd : Nat} (x : FnK K f n cd) (i : InBut K g) (h1 : f ≠ 16) (h2 : cd ≠ 16) : FnAt g f n cd :=
  ⟨⟨_, _, i _ _ h1 x.a, x.b⟩, cd, _, _, _, rfl, i _ _ h2 x.c, x.d, x.e⟩
structure NsK (K : Frag) (z : Addr) : Prop where
  a : K.lookup z = some (ob K z)
  b : (ob K z).data = .dict (esOf (ob K z)) (epOf (ob K z))
  c : ((esOf (ob K z)).toList.all strKey) = true
theorem strKeys_of {es : Array DictEntry} (h : es.toList.all strKey = true) : StrKeys es := by
  intro e he
  have z := List.all_eq_true.mp h e (by simpa using he)
  unfold strKey at z
  cases q : e.key <;> rw [q] at z <;> first | exact ⟨_, _, rfl⟩ | cases z
theorem NsK.at {K : Frag} {g : Heap} {a : Addr} (x : NsK K a) (i : InBut K g) (h1 : a ≠ 16) : g.Ns a (nsFind (esOf (ob K a))) :=
  ⟨_, _, _, i _ _ h1 x.a, x.b, strKeys_of x.c, fun _ => rfl⟩
structure TopOK (K : Frag) : Prop where
  n0 : NsK K 0
  n2 : NsK K 2
  n3 : NsK K 3
  lim : nsFind (esOf (ob K 2)) "sys.recursionlimit" = none
  glob : globsAre (nsFind (esOf (ob K 3)))
  blt : bltsAre (nsFind (esOf (ob K 0)))
  f28 : FnK K 28 3 27
  f35 : FnK K 35 4 34
  f42 : FnK K 42 5 41
  f49 : FnK K 49 6 48
  f56 : FnK K 56 7 55
  f63 : FnK K 63 9 62
  f70 : FnK K 70 10 69
  f77 : FnK K 77 11 76
  f82 : FnK K 82 12 81
  f87 : FnK K 87 13 86
  f21 : FnK K 21 1 20
  o2 : K.lookup 2 = some ⟨.none, none, .dict #[] 0, #[]⟩
  o62 : K.lookup 62 = some oCode
  o63 : K.lookup 63 = some ⟨.type "function", none, .func (mkFd 9 62 (pmOf (ob K 63))), #[]⟩
  o16 : K.lookup 16 = some (tableObj #[])
  o20 : (ob K 20).cls = .type "code"
  p20 : (vsOf (ob K 20))[11]? = some (.ref 16)
theorem TopOK.base {K : Frag} {g : Heap} (x : TopOK K) (i : InBut K g) : Base g :=
  ⟨⟨_, x.n2.at i (by decide), x.lim⟩, ⟨_, x.n3.at i (by decide), x.glob⟩, ⟨_, x.n0.at i (by decide), x.blt⟩, x.f28.at i (by decide) (by decide), x.f35.at i (by decide) (by decide), x.f42.at i (by decide) (by decide), x.f49.at i (by decide) (by decide),
    x.f56.at i (by decide) (by decide), x.f63.at i (by decide) (by decide), x.f70.at i (by decide) (by decide), x.f77.at i (by decide) (by decide), x.f82.at i (by decide) (by decide)⟩
theorem ints_mem {vs : List Value} {ns : List Int} (h : IntsAre vs ns) : ∀ v ∈ vs.toArray, ∃ n t, v = .int n t := by
  intro v hv
  rw [List.mem_toArray] at hv
  induction h with
  | nil => cases hv
  | cons _ _ _ ih =>
    rcases List.mem_cons.mp hv with rfl | hv
    · exact ⟨_, _, rfl⟩
    · exact ih hv
theorem fin_law {w : World} {A : Around} {s : Shared} {T : KT} {K : Frag} {vs : List Value} {ns : List Int} {Q : Value → Shared → Prop} {E : Value → Shared → Prop}
    (KX : K.In s.heap) (ZH : KT.Holds s.heap 1 0 T) (top : TopOK K) (hsz : s.heap.objs.size = 89) (hg : s.gens = #[]) (hl : s.heap.IsList 88 vs.toArray) (hi : IntsAre vs ns) (hlen : vs.length ≤ 63) (R : Room A 310 200)
    (c0 : CmpSpec w T 113) (c1 : CmpSpec w T 120) (c2 : CmpSpec w T 127) (c3 : CmpSpec w T 134) (c4 : CmpSpec w T 141) (c5 : CmpSpec w T 148) (c6 : CmpSpec w T 155)
    (h : ∀ h' t', OldK s.heap h' → Q (.bool true) { s with heap := h', toks := t' }) :
    wpAny (model PySem.Challenge.pw_mg0026_01 w) A (call (.ref 87) [.ref 88]) Q E s := by
  have i0 : InBut K s.heap := fun a o _ e => KX a o e
  have i1 : InBut K (s.heap.hide 16) := fun a o ha e => (Heap.hide_ne s.heap ha).trans (KX a o e)
  refine law_spec (top.base i1) (top.f87.at i0 (by decide) (by decide)) ⟨_, _, KX _ _ top.f21.a, top.f21.b⟩ (KX _ _ top.o2) (KX _ _ top.o63) (KX _ _ top.o62) (KX _ _ top.o16) ⟨20, _, _, KX _ _ top.f21.c, top.o20, top.f21.d, top.p20⟩ hsz hg hl (ints_mem hi) (by simpa using hlen) ZH ?_ R h
  intro r hr
  have : r = 0 ∨ r = 1 ∨ r = 2 ∨ r = 3 ∨ r = 4 ∨ r = 5 ∨ r = 6 := by omega
  rcases this with rfl | rfl | rfl | rfl | rfl | rfl | rfl
  · exact c0
  · exact c1
  · exact c2
  · exact c3
  · exact c4
  · exact c5
  · exact c6
end Mine
end
open PySem PySem.W PySem.W.X PySem.W.ZRun PyProof.Rows
namespace Mine
set_option maxRecDepth 100000
theorem own_eq {V : XV} {h : Heap} {T : BT} {m : Nat} {ch : Ch} (D : Rep V h T m ch) (i : Nat) (o : Obj) (N : Nat) (e : T.get i = some o) (hN : V.n₁ = N) : h.get? (N + i) = some o := hN ▸ (D.own i o e).2
theorem keep_eq {V : XV} {h : Heap} {T : BT} {m : Nat} {ch : Ch} (D : Rep V h T m ch) (e : ch.map (·.1) = [16]) : ∀ b o, V.h₀.get? b = some o → b ≠ 16 → h.get? b = some o := fun b o q hb => D.keep b o q (ch16 e hb)
theorem goodEnd {c : ClaimW} {cl : Str → Option Addr} {mean : ExcName → Option Value} {args : List WData} {s₁ : Shared} {h : Heap} {t : Nat}
    (old : OldK s₁.heap h) (hg : s₁.gens = #[]) (hr : ∀ cls, c.raises args cls = false) (hp : c.post args (.bool true) args = true) :
    GoodWG c cl mean args s₁ (.ok (.ret (.bool true))) { s₁ with heap := h, toks := t } :=
  ⟨.inl ⟨_, _, [], rfl, hr, ReadsW.bool true, hp, fun _ => ⟨List.nodup_nil, fun _ hm => (nomatch hm)⟩⟩, old, rfl, .of_eq hg⟩
end Mine
open Mine
local macro_rules | `(tactic| wrow_post) => `(tactic| (
   (refine myC_true ⟨rfl, ?kat, keep_eq (by assumption) (by kernel_rfl), ?g, rfl, rfl⟩);
   ((case g => exact Eq.symm (by assumption)));
   ((case kat => exact ⟨own_eq (by assumption) 1 _ _ (by kernel_rfl) rfl, own_eq (by assumption) 15 _ _ (by kernel_rfl) rfl, own_eq (by assumption) 16 _ _ (by kernel_rfl) rfl, own_eq (by assumption) 23 _ _ (by kernel_rfl) rfl, own_eq (by assumption) 24 _ _ (by kernel_rfl) rfl,
     own_eq (by assumption) 39 _ _ (by kernel_rfl) rfl, own_eq (by assumption) 40 _ _ (by kernel_rfl) rfl, own_eq (by assumption) 59 _ _ (by kernel_rfl) rfl, own_eq (by assumption) 60 _ _ (by kernel_rfl) rfl, own_eq (by assumption) 61 _ _ (by kernel_rfl) rfl⟩))))
set_option maxRecDepth 100000 in
set_option maxHeartbeats 0 in
theorem PySem.Challenge.cw_mg0026_01_holds : PySem.Challenge.rw_mg0026_01.Holds := by
  w_on; o_law; z_head; (case hw => w_witness2)
  k_fill
  intro w s₀ s₁ mg mb G y fa o pm cd doc dV kV ho hd hcd hD hmg hg args vals as L hpre hlay hrd hwl hlo
  z_open y L KX ZH ZN ZT
  refine Ground.open G ?_
  intro T B D TE TW
  wrow_args hpre hlay hrd hwl hlo
  obtain ⟨hat, hsz⟩ := script_at L
  have htk := script_toks L ZT
  rw [ZN] at hat hsz
  subst hat
  x_fa T KX hmg
  all_lens
  refine fin_law KX ZH ?top hsz hg (by assumption) (by assumption) ?len ⟨rfl, by decide, by decide⟩ ?c0 ?c1 ?c2 ?c3 ?c4 ?c5 ?c6 (fun h' t' old => goodEnd old hg (fun _ => rfl) (by kernel_rfl))
  case len => omega
  case top => 
    refine ⟨?n0, ?n2, ?n3, ?lim, ?glob, ?blt, ?f28, ?f35, ?f42, ?f49, ?f56, ?f63, ?f70, ?f77, ?f82, ?f87, ?f21, ?o2, ?o62, ?o63, ?o16, ?o20, ?p20⟩
    case n0 => exact ⟨by kernel_rfl, by kernel_rfl, by kernel_rfl⟩
    case n2 => exact ⟨by kernel_rfl, by kernel_rfl, by kernel_rfl⟩
    case n3 => exact ⟨by kernel_rfl, by kernel_rfl, by kernel_rfl⟩
    case lim => kernel_rfl
    case glob => exact ⟨by kernel_rfl, by kernel_rfl, by kernel_rfl, by kernel_rfl, by kernel_rfl, by kernel_rfl, by kernel_rfl, by kernel_rfl, by kernel_rfl, by kernel_rfl, by kernel_rfl, by kernel_rfl, by kernel_rfl, by kernel_rfl, by kernel_rfl, by kernel_rfl⟩
    case blt => exact ⟨by kernel_rfl, by kernel_rfl, by kernel_rfl, by kernel_rfl, by kernel_rfl, by kernel_rfl⟩
    case f28 => exact ⟨by kernel_rfl, by kernel_rfl, by kernel_rfl, by kernel_rfl, by kernel_rfl⟩
    case f35 => exact ⟨by kernel_rfl, by kernel_rfl, by kernel_rfl, by kernel_rfl, by kernel_rfl⟩
    case f42 => exact ⟨by kernel_rfl, by kernel_rfl, by kernel_rfl, by kernel_rfl, by kernel_rfl⟩
    case f49 => exact ⟨by kernel_rfl, by kernel_rfl, by kernel_rfl, by kernel_rfl, by kernel_rfl⟩
    case f56 => exact ⟨by kernel_rfl, by kernel_rfl, by kernel_rfl, by kernel_rfl, by kernel_rfl⟩
    case f63 => exact ⟨by kernel_rfl, by kernel_rfl, by kernel_rfl, by kernel_rfl, by kernel_rfl⟩
    case f70 => exact ⟨by kernel_rfl, by kernel_rfl, by kernel_rfl, by kernel_rfl, by kernel_rfl⟩
    case f77 => exact ⟨by kernel_rfl, by kernel_rfl, by kernel_rfl, by kernel_rfl, by kernel_rfl⟩
    case f82 => exact ⟨by kernel_rfl, by kernel_rfl, by kernel_rfl, by kernel_rfl, by kernel_rfl⟩
    case f87 => exact ⟨by kernel_rfl, by kernel_rfl, by kernel_rfl, by kernel_rfl, by kernel_rfl⟩
    case f21 => exact ⟨by kernel_rfl, by kernel_rfl, by kernel_rfl, by kernel_rfl, by kernel_rfl⟩
    case o2 => kernel_rfl
    case o62 => kernel_rfl
    case o63 => kernel_rfl
    case o16 => kernel_rfl
    case o20 => kernel_rfl
    case p20 => kernel_rfl
  case c0 =>
    intro s ZH2 hsz2 hg2 E
    z_run
  case c1 =>
    intro s ZH2 hsz2 hg2 E
    z_run
  case c2 =>
    intro s ZH2 hsz2 hg2 E
    z_run
  case c3 =>
    intro s ZH2 hsz2 hg2 E
    z_run
  case c4 =>
    intro s ZH2 hsz2 hg2 E
    z_run
  case c5 =>
    intro s ZH2 hsz2 hg2 E
    z_run
  case c6 =>
    intro s ZH2 hsz2 hg2 E
    z_run
