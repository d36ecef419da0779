import PyProof.Rows.All
import KE.BitLaws
import Open.Head
import Open.Line
import OpenK.KEqL
import Wide.All
import PySem.Challenge.RW_pe0031_01
set_option Elab.async false
set_option linter.unusedVariables false
set_option linter.unusedSimpArgs false

section
open PySem PySem.W PyProof.Rows
set_option maxRecDepth 100000
namespace Mine

abbrev P : Program := PySem.Challenge.pw_pe0031_01

def stAt (i : Nat) : Stmt := P.main.body.getD i (.Pass default)
def dNam : Stmt → Str
  | .FunctionDef n _ _ _ _ _ _ _ _ _ => n
  | _ => ""
def dPar : Stmt → Arguments
  | .FunctionDef _ a _ _ _ _ _ _ _ _ => a
  | _ => ⟨[], [], none, [], [], none, []⟩
def dBod : Stmt → List Stmt
  | .FunctionDef _ _ b _ _ _ _ _ _ _ => b
  | _ => []
def dSco : Stmt → Scope
  | .FunctionDef _ _ _ _ _ _ s _ _ _ => s
  | _ => P.main.scope

/-- the function of statement i stands at a, under its name -/
def FnAt (h : Heap) (mg : Str → Option Value) (nm : Str) (i : Nat) (a : Addr) : Prop :=
  ∃ o pm cd doc, mg nm = some (.ref a) ∧ h.get? a = some o ∧
    o.data = .func (Calls.docDef nm (dPar (stAt i)) (dBod (stAt i)) (dSco (stAt i)) pm cd doc) ∧ h.CodeRec cd nm

theorem FnAt.keeps {h h' : Heap} {mg nm i a} (x : FnAt h mg nm i a) (hk : ∀ b o, h.get? b = some o → h'.get? b = some o) : FnAt h' mg nm i a :=
  let ⟨o, pm, cd, doc, a1, a2, a3, a4⟩ := x; ⟨o, pm, cd, doc, a1, hk _ _ a2, a3, a4.keeps hk⟩

def b1L : List Int := [173, 847, 6150, 6155, 6156, 6157, 8203, 8204, 8205, 8288, 65279] ++ (List.range 16).map (fun i : Nat => 65024 + (i : Int))
def c6L : List Int := (List.range 5).map (fun i : Nat => 65529 + (i : Int))
def c7L : List Int := (List.range 12).map (fun i : Nat => 12272 + (i : Int))
def c8L : List Int := [832, 833, 8206, 8207] ++ (List.range 5).map (fun i : Nat => 8234 + (i : Int)) ++ (List.range 6).map (fun i : Nat => 8298 + (i : Int))
def c9L : List Int := [917505] ++ (List.range 96).map (fun i : Nat => 917536 + (i : Int))

def SetAt (w : World) (mg : Str → Option Value) (h : Heap) (nm : Str) (l : List Int) : Prop :=
  ∃ a n, mg nm = some (.ref a) ∧ h.SetOf (intKind P w) a (fun k => l.any (· == k)) n

theorem SetAt.keeps {w mg nm l} {h h' : Heap} (x : SetAt w mg h nm l) (hk : ∀ b o, h.get? b = some o → h'.get? b = some o) : SetAt w mg h' nm l := by
  obtain ⟨a, n, e, o, es, ep, t, ho, r⟩ := x
  exact ⟨a, n, e, o, es, ep, t, hk _ _ ho, r⟩

def freeNames : List Str := ["ord", "chr", "range", "len", "max", "min", "ValueError"]

structure Base (w : World) (mg mb : Str → Option Value) (h : Heap) : Prop where
  g : h.Ns mainGlobals mg
  b : h.Ns builtinsNs mb
  nolimit : h.NoLimit
  bi : ∀ x : Str, x ≠ "__name__" → mb x = bootBuiltins x
  free : ∀ x ∈ freeNames, mg x = none
  cm : ∃ t, mg "CHAR_MAX" = some (.int 127 t)
  f2 : ∃ a, FnAt h mg "_grouping_intervals" 2 a
  f5 : ∃ a, FnAt h mg "in_table_b1" 5 a
  f6 : ∃ a, FnAt h mg "in_table_c11" 6 a
  f7 : ∃ a, FnAt h mg "in_table_c4" 7 a
  f9 : ∃ a, FnAt h mg "in_table_c6" 9 a
  f11 : ∃ a, FnAt h mg "in_table_c7" 11 a
  f13 : ∃ a, FnAt h mg "in_table_c8" 13 a
  f15 : ∃ a, FnAt h mg "in_table_c9" 15 a
  f17 : ∃ a, FnAt h mg "_law_runs" 17 a
  f18 : ∃ a, FnAt h mg "_law_told" 18 a
  f19 : ∃ a, FnAt h mg "_law_marks" 19 a
  f20 : ∃ a, FnAt h mg "_law_by_division" 20 a
  f21 : ∃ a, FnAt h mg "_law_ruler_is_right" 21 a
  b1 : SetAt w mg h "b1_set" b1L
  c6 : SetAt w mg h "c6_set" c6L
  c7 : SetAt w mg h "c7_set" c7L
  c8 : SetAt w mg h "c8_set" c8L
  c9 : SetAt w mg h "c9_set" c9L

theorem Base.keeps {w mg mb} {h h' : Heap} (x : Base w mg mb h) (hk : ∀ b o, h.get? b = some o → h'.get? b = some o) : Base w mg mb h' where
  g := x.g.keeps hk
  b := x.b.keeps hk
  nolimit := x.nolimit.keeps hk
  bi := x.bi
  free := x.free
  cm := x.cm
  f2 := x.f2.imp fun _ y => y.keeps hk
  f5 := x.f5.imp fun _ y => y.keeps hk
  f6 := x.f6.imp fun _ y => y.keeps hk
  f7 := x.f7.imp fun _ y => y.keeps hk
  f9 := x.f9.imp fun _ y => y.keeps hk
  f11 := x.f11.imp fun _ y => y.keeps hk
  f13 := x.f13.imp fun _ y => y.keeps hk
  f15 := x.f15.imp fun _ y => y.keeps hk
  f17 := x.f17.imp fun _ y => y.keeps hk
  f18 := x.f18.imp fun _ y => y.keeps hk
  f19 := x.f19.imp fun _ y => y.keeps hk
  f20 := x.f20.imp fun _ y => y.keeps hk
  f21 := x.f21.imp fun _ y => y.keeps hk
  b1 := x.b1.keeps hk
  c6 := x.c6.keeps hk
  c7 := x.c7.keeps hk
  c8 := x.c8.keeps hk
  c9 := x.c9.keeps hk

/-- what a call leaves as it was -/
structure Kp (s s' : Shared) : Prop where
  keep : ∀ b o, s.heap.get? b = some o → s'.heap.get? b = some o
  os : s'.os = s.os
  bare : AllBare s.gens → AllBare s'.gens

theorem Kp.refl (s : Shared) : Kp s s := ⟨fun _ _ e => e, rfl, id⟩
theorem Kp.trans {a b c : Shared} (x : Kp a b) (y : Kp b c) : Kp a c := ⟨fun _ _ e => y.keep _ _ (x.keep _ _ e), y.os.trans x.os, fun h => y.bare (x.bare h)⟩

/-- room enough for a few frames more -/
structure Room (A : Around) (d u : Nat) : Prop where
  handled : A.handled = none
  depth : A.depth + d < recursionLimit
  units : A.units + u < cLine

theorem Room.deeper {A : Around} {d u : Nat} (r : Room A (d + 1) (u + 3)) (env : Env) : Room (A.deeper env) d u :=
  ⟨r.handled, by have := r.depth; show A.depth + 1 + d < _; omega, by have := r.units; show A.units + 3 + u < _; omega⟩
theorem Room.less {A : Around} {d u d' u' : Nat} (r : Room A d u) (h1 : d' ≤ d) (h2 : u' ≤ u) : Room A d' u' := ⟨r.handled, by have := r.depth; omega, by have := r.units; omega⟩
theorem Room.here {A : Around} {d u : Nat} (r : Room A d u) : A.depth < recursionLimit := by have := r.depth; omega

end Mine
end

section
open PySem PySem.W PyProof.Rows
set_option maxRecDepth 100000
namespace Mine
section
variable {w : World} {A : Around} {E : Value → Shared → Prop} {s : Shared} {mg mb : Str → Option Value} {name : Str} {scope : Scope} {L fa : Addr} {cd : Value}

theorem ldg {x : Str} {pos : Pos} {v : Value} {Q : Value → Shared → Prop} (B : Base w mg mb s.heap) (hv : mg x = some v) (h : Q v s)
    (hk : scope.kind = .function := by rfl) (hx : (envOf name scope L fa cd).kindOf x = some .globalImplicit := by rfl) (hd : (x == ("__debug__" : Str)) = false := by decide) :
    wpAny (model P w) A (eval (.Name x pos) (envOf name scope L fa cd)) Q E s :=
  Calls.Name_function_global hk hx (Calls.loadGlobal_global B.g hv h) hd

theorem ldb {x : Str} {pos : Pos} {v : Value} {Q : Value → Shared → Prop} (B : Base w mg mb s.heap) (hf : x ∈ freeNames) (hv : bootBuiltins x = some v) (h : Q v s)
    (hk : scope.kind = .function := by rfl) (hx : (envOf name scope L fa cd).kindOf x = some .globalImplicit := by rfl) (hd : (x == ("__debug__" : Str)) = false := by decide)
    (hn : x ≠ "__name__" := by decide) :
    wpAny (model P w) A (eval (.Name x pos) (envOf name scope L fa cd)) Q E s :=
  Calls.Name_function_global hk hx (Calls.loadGlobal_builtin B.g (B.free x hf) B.b ((B.bi x hn).trans hv) h) hd

/-- a call of a def that stands at the top, seen from within -/
theorem enter {nm : Str} {i : Nat} {a : Addr} {args : List Value} {binds : List (Str × Value)} {Q : Value → Shared → Prop} {d u : Nat} (B : Base w mg mb s.heap) (R : Room A d u) (Fn : FnAt s.heap mg nm i a)
    (hb : ∀ pm cd doc, bindArgs (Calls.docDef nm (dPar (stAt i)) (dBod (stAt i)) (dSco (stAt i)) pm cd doc) ⟨args, []⟩ = pure binds)
    (hloc : ∀ x ∈ binds, (dSco (stAt i)).names.lookup x.1 = some .local)
    (h : ∀ cd h₁, Fr s.heap s.heap.objs.size h₁ (fun x => binds.reverse.lookup x) →
      wpAny (model P w) (A.deeper (envOf nm (dSco (stAt i)) s.heap.objs.size a cd)) (execs (dBod (stAt i)) (envOf nm (dSco (stAt i)) s.heap.objs.size a cd))
        (fun f s' => Q (match f with | .ret v => v | _ => .none) s') (fun _ _ => False) { s with heap := h₁, toks := s.toks + binds.length })
    (hco : (dSco (stAt i)).isCoroutine = false := by rfl) (hgen : (dSco (stAt i)).isGenerator = false := by rfl) (hk : (dSco (stAt i)).kind = .function := by rfl)
    (hcell : ∀ x ∈ (dSco (stAt i)).names, x.2 ≠ .cell := by decide) :
    wpAny (model P w) A (call (.ref a) args) Q E s := by
  obtain ⟨o, pm, cd, doc, h1, h2, h3, h4⟩ := Fn
  exact wpAny_call (call_plain_ret R.here h2 h3 B.nolimit h4 (hb pm cd doc) hloc (fun h₁ F => h cd h₁ F) hco hgen hk hcell)

/-- f(e, ..) by the def's name -/
theorem callF {f : Str} {i : Nat} {fp pos : Pos} {args : List Expr} {x : Sem Value} {rest : List (Bool × Sem Value)} {Q : Value → Shared → Prop} {a : Addr} (B : Base w mg mb s.heap) (Fn : FnAt s.heap mg f i a)
    (hargs : backTo pos (starEach args (envOf name scope L fa cd)) = (false, x) :: rest)
    (h : wpAny (model P w) A (spliced ((false, x) :: rest)) (fun vs s₁ => (∀ b o, s.heap.get? b = some o → s₁.heap.get? b = some o) ∧ wpAny (model P w) A (call (.ref a) vs) Q E s₁) E s)
    (hk : scope.kind = .function := by rfl) (hx : (envOf name scope L fa cd).kindOf f = some .globalImplicit := by rfl) (hd : (f == ("__debug__" : Str)) = false := by decide) :
    wpAny (model P w) A (eval (.Call (.Name f fp) args [] pos) (envOf name scope L fa cd)) Q E s := by
  obtain ⟨o, pm, cd', doc, h1, h2, h3, h4⟩ := Fn
  refine wpAny_Call_NameR (ldg B h1 ?_ hk hx hd)
  rw [hargs]
  refine Calls.callWith_function (o := o) (fd := Calls.docDef f (dPar (stAt i)) (dBod (stAt i)) (dSco (stAt i)) pm cd' doc) (Calls.evalArgs_plain (wpAny_mono h (fun vs s₁ h₁ => ?_) fun _ _ e => e))
  exact ⟨⟨h₁.1 _ _ h2, h3⟩, h₁.2⟩

theorem callB {f : Str} {id : String} {fp pos : Pos} {args : List Expr} {x : Sem Value} {rest : List (Bool × Sem Value)} {Q : Value → Shared → Prop} (B : Base w mg mb s.heap)
    (hf : f ∈ freeNames) (hv : bootBuiltins f = some (.builtin id))
    (hargs : backTo pos (starEach args (envOf name scope L fa cd)) = (false, x) :: rest) (hpl : ((false, x) :: rest).any (·.1) = false)
    (h : wpAny (model P w) A (spliced ((false, x) :: rest)) (fun vs s₁ => wpAny (model P w) A (call (.builtin id) vs) Q E s₁) E s)
    (hk : scope.kind = .function := by rfl) (hx : (envOf name scope L fa cd).kindOf f = some .globalImplicit := by rfl) (hd : (f == ("__debug__" : Str)) = false := by decide)
    (hn : f ≠ "__name__" := by decide) :
    wpAny (model P w) A (eval (.Call (.Name f fp) args [] pos) (envOf name scope L fa cd)) Q E s := by
  refine wpAny_Call_NameR (ldb B hf hv ?_ hk hx hd hn)
  rw [hargs]
  exact Calls.callWith_builtin hpl (Calls.evalArgs_plain h)

theorem inSet_spec {nm setn : Str} {i : Nat} {l : List Int} {a : Addr} {c : Nat} {t : Tok} {Q : Value → Shared → Prop} (B : Base w mg mb s.heap) (R : Room A 1 10) (Fn : FnAt s.heap mg nm i a)
    (S : SetAt w mg s.heap setn l)
    (hbody : ∃ p1 p2 p3 p4 p5 p6, dBod (stAt i) = [.Return (some (.Compare (.Call (.Name "ord" p1) [.Name "code" p2] [] p3) [.In] [.Name setn p4] p5)) p6])
    (hpar : ∀ pm cd doc, bindArgs (Calls.docDef nm (dPar (stAt i)) (dBod (stAt i)) (dSco (stAt i)) pm cd doc) ⟨[Value.str ⟨#[c]⟩ t], []⟩ = pure [(("code" : Str), Value.str ⟨#[c]⟩ t)])
    (hsc : (dSco (stAt i)).names.lookup ("code" : Str) = some .local ∧ (dSco (stAt i)).names.lookup ("ord" : Str) = some .globalImplicit ∧ (dSco (stAt i)).names.lookup setn = some .globalImplicit ∧
      (dSco (stAt i)).isCoroutine = false ∧ (dSco (stAt i)).isGenerator = false ∧ (dSco (stAt i)).kind = .function ∧ (∀ x ∈ (dSco (stAt i)).names, x.2 ≠ .cell))
    (hsd : (setn == ("__debug__" : Str)) = false)
    (h : ∀ s', Kp s s' → Q (.bool (l.any (· == (c : Int)))) s') : wpAny (model P w) A (call (.ref a) [.str ⟨#[c]⟩ t]) Q E s := by
  obtain ⟨p1, p2, p3, p4, p5, p6, hb⟩ := hbody
  obtain ⟨k1, k2, k3, k4, k5, k6, k7⟩ := hsc
  obtain ⟨sa, n, hs1, hs2⟩ := S
  refine enter B R Fn hpar (by intro x hx; simp at hx; subst hx; exact k1) (fun cd h₁ F => ?_) k4 k5 k6 k7
  rw [hb]
  have B₁ : Base w mg mb h₁ := B.keeps F.keep
  refine wpAny_execs_cons (wpAny_Return_some (wpAny_Compare1 ?_ (by with_unfolding_all rfl)))
  refine callB (id := "ord") B₁ (by decide) (by rfl) rfl rfl ?_ k6 k2 (by decide) (by decide)
  refine Calls.spliced_cons (ld F (by rfl) ?_ k6 k1 (by decide))
  refine Calls.spliced_nil (ord_of_one (by rfl) ?_)
  refine ldg (B₁) hs1 ?_ k6 k3 hsd
  have hS : h₁.SetOf (intKind P w) sa (fun k => l.any (· == k)) n := by obtain ⟨o, es, ep, tb, ho, r⟩ := hs2; exact ⟨o, es, ep, tb, F.keep _ _ ho, r⟩
  refine wpAny_inSet_of (knd := intKind P w) (k := (c : Int)) (intKind_is _ _ _ _) rfl hS ?_
  exact h _ ⟨F.keep, rfl, id⟩
end
end Mine
end

section
open PySem PySem.W PyProof.Rows
set_option maxRecDepth 100000
namespace Mine

inductive PV where
  | i (n : Int)
  | b (c : Bool)
def PV.Is : PV → Value → Prop
  | .i n, v => ∃ t, v = .int n t
  | .b c, v => v = .bool c

/-- what an expression of ints and bools over the frame's names comes to -/
inductive EvR (rd : Str → Int → Prop) : Expr → PV → Prop
  | cint {i k p} : EvR rd (.Constant (.int i) k p) (.i i)
  | cbool {c k p} : EvR rd (.Constant (.bool c) k p) (.b c)
  | name {x p n} (hm : rd x n) : EvR rd (.Name x p) (.i n)
  | add {l r p a b} : EvR rd l (.i a) → EvR rd r (.i b) → EvR rd (.BinOp l .Add r p) (.i (a + b))
  | sub {l r p a b} : EvR rd l (.i a) → EvR rd r (.i b) → EvR rd (.BinOp l .Sub r p) (.i (a - b))
  | mul {l r p a b} : EvR rd l (.i a) → EvR rd r (.i b) → Builtin.Int.intBits b ≤ 64 → EvR rd (.BinOp l .Mult r p) (.i (a * b))
  | div {l r p a b} : EvR rd l (.i a) → EvR rd r (.i b) → b ≠ 0 → b.natAbs < 1073741824 → EvR rd (.BinOp l .FloorDiv r p) (.i (a.fdiv b))
  | mod {l r p a b} : EvR rd l (.i a) → EvR rd r (.i b) → b ≠ 0 → EvR rd (.BinOp l .Mod r p) (.i (a.fmod b))
  | neg {x p a} : EvR rd x (.i a) → EvR rd (.UnaryOp .USub x p) (.i (-a))
  | eq {l r p a b} : EvR rd l (.i a) → EvR rd r (.i b) → EvR rd (.Compare l [.Eq] [r] p) (.b (a == b))
  | lt {l r p a b} : EvR rd l (.i a) → EvR rd r (.i b) → EvR rd (.Compare l [.Lt] [r] p) (.b (decide (a < b)))
  | gt {l r p a b} : EvR rd l (.i a) → EvR rd r (.i b) → EvR rd (.Compare l [.Gt] [r] p) (.b (decide (b < a)))
  | ite {t x y p c v} : EvR rd t (.b c) → (c = true → EvR rd x v) → (c = false → EvR rd y v) → EvR rd (.IfExp t x y p) v

/-- the names of a frame that hold ints -/
def rdL (sc : Scope) (m : Str → Option Value) : Str → Int → Prop := fun x n => (∃ t, m x = some (.int n t)) ∧ sc.names.lookup x = some .local ∧ (x == ("__debug__" : Str)) = false
abbrev Ev (sc : Scope) (m : Str → Option Value) : Expr → PV → Prop := EvR (rdL sc m)
theorem EvR.loc {sc : Scope} {m : Str → Option Value} {x p n t} (hm : m x = some (.int n t)) (hl : sc.names.lookup x = some .local) (hd : (x == ("__debug__" : Str)) = false) : EvR (rdL sc m) (.Name x p) (.i n) :=
  .name ⟨⟨t, hm⟩, hl, hd⟩

section
variable {w : World} {A : Around} {E : Value → Shared → Prop} {mg mb : Str → Option Value} {name : Str} {scope : Scope} {L fa : Addr} {cd : Value} {h₀ : Heap} {m : Str → Option Value}

/-- the test of a comparison -/
theorem marks_eq {op : CmpOp} {r : Expr} (h : op = .Eq ∨ op = .Lt ∨ op = .Gt) : behindInMarks op r = false := by
  rcases h with rfl | rfl | rfl <;> cases r <;> first | rfl | (show (_ && false && _) = false; simp)

theorem EvR.both {rd : Str → Int → Prop} {env : Env} {e : Expr} {v : PV} (x : EvR rd e v) :
    ∀ (s : Shared) (_ : ∀ x p n tk (Q : Value → Shared → Prop), rd x n → (∀ t, Q (.int n t) { s with toks := tk }) → wpAny (model P w) A (eval (.Name x p) env) Q E { s with toks := tk }),
      (∀ (Q : Value → Shared → Prop), (∀ r tk, v.Is r → Q r { s with toks := tk }) → wpAny (model P w) A (eval e env) Q E s) ∧
      (∀ (Q : Bool → Shared → Prop) (c : Bool), v = .b c → (∀ tk, Q c { s with toks := tk }) → wpAny (model P w) A (isTrue e env (eval e env)) Q E s) := by
  have noB : ∀ {n : Int} {c : Bool}, PV.i n = PV.b c → False := fun h => by cases h
  induction x with
  | cint => exact fun s F => ⟨fun Q h => wpAny_Constant_int (h _ _ ⟨_, rfl⟩), fun _ _ e => (noB e).elim⟩
  | cbool =>
    refine fun s F => ⟨fun Q h => Constant_bool (h _ s.toks rfl), fun Q c e h => ?_⟩
    cases e
    exact isTrue_plain (Constant_bool (wpAny_truthy_bool (h s.toks)))
  | name hm => exact fun s F => ⟨fun Q h => F _ _ _ s.toks Q hm fun t => h _ s.toks ⟨t, rfl⟩, fun _ _ e => (noB e).elim⟩
  | add _ _ ih1 ih2 =>
    refine fun s F => ⟨fun Q h => wpAny_BinOp ((ih1 s F).1 _ fun r1 tk1 h1 => (ih2 { s with toks := tk1 } F).1 _ fun r2 tk2 h2 => ?_), fun _ _ e => (noB e).elim⟩
    obtain ⟨t1, rfl⟩ := h1; obtain ⟨t2, rfl⟩ := h2
    exact add_int (h _ _ ⟨_, rfl⟩)
  | sub _ _ ih1 ih2 =>
    refine fun s F => ⟨fun Q h => wpAny_BinOp ((ih1 s F).1 _ fun r1 tk1 h1 => (ih2 { s with toks := tk1 } F).1 _ fun r2 tk2 h2 => ?_), fun _ _ e => (noB e).elim⟩
    obtain ⟨t1, rfl⟩ := h1; obtain ⟨t2, rfl⟩ := h2
    exact sub_int' (h _ _ ⟨_, rfl⟩)
  | mul _ _ hb ih1 ih2 =>
    refine fun s F => ⟨fun Q h => wpAny_BinOp ((ih1 s F).1 _ fun r1 tk1 h1 => (ih2 { s with toks := tk1 } F).1 _ fun r2 tk2 h2 => ?_), fun _ _ e => (noB e).elim⟩
    obtain ⟨t1, rfl⟩ := h1; obtain ⟨t2, rfl⟩ := h2
    exact mul_int (h _ _ ⟨_, rfl⟩) (IntMulOk.of_right hb)
  | div _ _ hb hs ih1 ih2 =>
    refine fun s F => ⟨fun Q h => wpAny_BinOp ((ih1 s F).1 _ fun r1 tk1 h1 => (ih2 { s with toks := tk1 } F).1 _ fun r2 tk2 h2 => ?_), fun _ _ e => (noB e).elim⟩
    obtain ⟨t1, rfl⟩ := h1; obtain ⟨t2, rfl⟩ := h2
    exact floordiv_int hb (h _ _ ⟨_, rfl⟩) (.inl (PyProof.noPylong_small hs))
  | mod _ _ hb ih1 ih2 =>
    refine fun s F => ⟨fun Q h => wpAny_BinOp ((ih1 s F).1 _ fun r1 tk1 h1 => (ih2 { s with toks := tk1 } F).1 _ fun r2 tk2 h2 => ?_), fun _ _ e => (noB e).elim⟩
    obtain ⟨t1, rfl⟩ := h1; obtain ⟨t2, rfl⟩ := h2
    exact mod_int' hb (h _ _ ⟨_, rfl⟩)
  | neg _ ih =>
    refine fun s F => ⟨fun Q h => UnaryOp_ ((ih s F).1 _ fun r1 tk1 h1 => ?_), fun _ _ e => (noB e).elim⟩
    obtain ⟨t1, rfl⟩ := h1
    exact neg_int (h _ _ ⟨_, rfl⟩)
  | eq _ _ ih1 ih2 =>
    refine fun s F => ⟨fun Q h => wpAny_Compare1 ((ih1 s F).1 _ fun r1 tk1 h1 => (ih2 { s with toks := tk1 } F).1 _ fun r2 tk2 h2 => ?_) (marks_eq (.inl rfl)),
      fun Q c e h => wpAny_isTrue_Compare1 ((ih1 s F).1 _ fun r1 tk1 h1 => (ih2 { s with toks := tk1 } F).1 _ fun r2 tk2 h2 => ?_) (marks_eq (.inl rfl))⟩
    · obtain ⟨t1, rfl⟩ := h1; obtain ⟨t2, rfl⟩ := h2
      exact eq_int (h _ _ rfl)
    · obtain ⟨t1, rfl⟩ := h1; obtain ⟨t2, rfl⟩ := h2
      cases e; exact eq_int (wpAny_truthy_bool (h _))
  | lt _ _ ih1 ih2 =>
    refine fun s F => ⟨fun Q h => wpAny_Compare1 ((ih1 s F).1 _ fun r1 tk1 h1 => (ih2 { s with toks := tk1 } F).1 _ fun r2 tk2 h2 => ?_) (marks_eq (.inr (.inl rfl))),
      fun Q c e h => wpAny_isTrue_Compare1 ((ih1 s F).1 _ fun r1 tk1 h1 => (ih2 { s with toks := tk1 } F).1 _ fun r2 tk2 h2 => ?_) (marks_eq (.inr (.inl rfl)))⟩
    · obtain ⟨t1, rfl⟩ := h1; obtain ⟨t2, rfl⟩ := h2
      exact lt_int (h _ _ rfl)
    · obtain ⟨t1, rfl⟩ := h1; obtain ⟨t2, rfl⟩ := h2
      cases e; exact lt_int (wpAny_truthy_bool (h _))
  | gt _ _ ih1 ih2 =>
    refine fun s F => ⟨fun Q h => wpAny_Compare1 ((ih1 s F).1 _ fun r1 tk1 h1 => (ih2 { s with toks := tk1 } F).1 _ fun r2 tk2 h2 => ?_) (marks_eq (.inr (.inr rfl))),
      fun Q c e h => wpAny_isTrue_Compare1 ((ih1 s F).1 _ fun r1 tk1 h1 => (ih2 { s with toks := tk1 } F).1 _ fun r2 tk2 h2 => ?_) (marks_eq (.inr (.inr rfl)))⟩
    · obtain ⟨t1, rfl⟩ := h1; obtain ⟨t2, rfl⟩ := h2
      exact gt_int (h _ _ rfl)
    · obtain ⟨t1, rfl⟩ := h1; obtain ⟨t2, rfl⟩ := h2
      cases e; exact gt_int (wpAny_truthy_bool (h _))
  | @ite t x y p c v _ _ _ ih1 ih2 ih3 =>
    refine fun s F => ⟨fun Q h => IfExp_ ((ih1 s F).2 _ c rfl fun tk1 => ?_), fun Q c' e h => isTrue_IfExp ((ih1 s F).2 _ c rfl fun tk1 => ?_)⟩
    · cases c with
      | true => exact (ih2 rfl { s with toks := tk1 } F).1 Q h
      | false => exact (ih3 rfl { s with toks := tk1 } F).1 Q h
    · cases c with
      | true => exact (ih2 rfl { s with toks := tk1 } F).2 Q c' e h
      | false => exact (ih3 rfl { s with toks := tk1 } F).2 Q c' e h

theorem rdL_loads {s : Shared} (F : Fr h₀ L s.heap m) (hk : scope.kind = .function) : ∀ x p n tk (Q : Value → Shared → Prop), rdL scope m x n → (∀ t, Q (.int n t) { s with toks := tk }) →
    wpAny (model P w) A (eval (.Name x p) (envOf name scope L fa cd)) Q E { s with toks := tk } := fun x p n tk Q ⟨⟨t, hm⟩, hl, hd⟩ h => ld (s := { s with toks := tk }) F hm (h t) hk hl hd

theorem Ev.int {e : Expr} {n : Int} {s : Shared} {Q : Value → Shared → Prop} (F : Fr h₀ L s.heap m) (x : Ev scope m e (.i n)) (h : ∀ t tk, Q (.int n t) { s with toks := tk }) (hk : scope.kind = .function := by rfl) :
    wpAny (model P w) A (eval e (envOf name scope L fa cd)) Q E s := (x.both s (rdL_loads F hk)).1 Q fun r tk hr => by obtain ⟨t, rfl⟩ := hr; exact h t tk
theorem Ev.bool {e : Expr} {c : Bool} {s : Shared} {Q : Value → Shared → Prop} (F : Fr h₀ L s.heap m) (x : Ev scope m e (.b c)) (h : ∀ tk, Q (.bool c) { s with toks := tk }) (hk : scope.kind = .function := by rfl) :
    wpAny (model P w) A (eval e (envOf name scope L fa cd)) Q E s := (x.both s (rdL_loads F hk)).1 Q fun r tk hr => by cases hr; exact h tk
theorem Ev.test {e : Expr} {c : Bool} {s : Shared} {Q : Bool → Shared → Prop} (F : Fr h₀ L s.heap m) (x : Ev scope m e (.b c)) (h : ∀ tk, Q c { s with toks := tk }) (hk : scope.kind = .function := by rfl) :
    wpAny (model P w) A (isTrue e (envOf name scope L fa cd) (eval e (envOf name scope L fa cd))) Q E s := (x.both s (rdL_loads F hk)).2 Q c rfl h
end
end Mine
end

section
open PySem PySem.W PyProof.Rows
set_option maxRecDepth 100000
namespace Mine
local macro_rules | `(tactic| w_left) => `(tactic| repeat' (first | exact EvR.cint | exact EvR.cbool | (refine' EvR.loc (by rfl) (by rfl) (by decide)) | refine' EvR.add ?_ ?_ | refine' EvR.sub ?_ ?_ | refine' EvR.mul ?_ ?_ ?_ | refine' EvR.div ?_ ?_ ?_ ?_ | refine' EvR.mod ?_ ?_ ?_ | refine' EvR.neg ?_ | refine' EvR.eq ?_ ?_ | refine' EvR.lt ?_ ?_ | refine' EvR.gt ?_ ?_ | (refine' EvR.loc (by assumption) (by rfl) (by decide))))

def inC4 (c : Int) : Bool := if c < 64976 then false else if c < 65008 then true else [65534, 65535].any (· == Builtin.bitAnd c 65535)
def toldOf (c : Int) : List Bool :=
  if 55296 ≤ c ∧ c ≤ 57343 then List.replicate 7 false else
  [b1L.any (· == c), c == 32, inC4 c, c6L.any (· == c), c7L.any (· == c), c8L.any (· == c), c9L.any (· == c)]

section
variable {w : World} {A : Around} {E : Value → Shared → Prop} {s : Shared} {mg mb : Str → Option Value}

theorem c11_spec {a : Addr} {c : Nat} {t : Tok} {Q : Value → Shared → Prop} (B : Base w mg mb s.heap) (R : Room A 1 10) (Fn : FnAt s.heap mg "in_table_c11" 6 a)
    (h : ∀ s', Kp s s' → Q (.bool ((c : Int) == 32)) s') : wpAny (model P w) A (call (.ref a) [.str ⟨#[c]⟩ t]) Q E s := by
  refine enter (binds := [(("code" : Str), Value.str ⟨#[c]⟩ t)]) B R Fn (fun _ _ _ => by rfl) (by intro x hx; simp at hx; subst hx; rfl) (fun cd h₁ F => ?_)
  refine wpAny_execs_cons (wpAny_Return_some (wpAny_Compare1 (ld F (by rfl) (Calls.Constant_str (eq_str ?_)))))
  have e : ((⟨#[c]⟩ : Str) == Str.ofString " ") = ((c : Int) == 32) := by
    rw [show Str.ofString " " = ⟨#[32]⟩ from by decide +kernel]
    by_cases hc : c = 32
    · subst hc; rfl
    · have h1 : ¬ ((⟨#[c]⟩ : Str) = ⟨#[32]⟩) := by intro h; cases h; exact hc rfl
      have h2 : ¬ ((c : Int) = 32) := by omega
      exact (beq_eq_false_iff_ne.mpr h1).trans (beq_eq_false_iff_ne.mpr h2).symm
  rw [e]
  exact h _ ⟨F.keep, rfl, id⟩

theorem c4_spec {a : Addr} {c : Nat} {t : Tok} {Q : Value → Shared → Prop} (B : Base w mg mb s.heap) (R : Room A 1 10) (Fn : FnAt s.heap mg "in_table_c4" 7 a)
    (h : ∀ s', Kp s s' → Q (.bool (inC4 c)) s') : wpAny (model P w) A (call (.ref a) [.str ⟨#[c]⟩ t]) Q E s := by
  refine enter (binds := [(("code" : Str), Value.str ⟨#[c]⟩ t)]) B R Fn (fun _ _ _ => by rfl) (by intro x hx; simp at hx; subst hx; rfl) (fun cd h₁ F => ?_)
  have B₁ : Base w mg mb h₁ := B.keeps F.keep
  refine wpAny_execs_cons (wpAny_Assign_Name ?_)
  refine callB (id := "ord") B₁ (by decide) (by rfl) rfl rfl ?_
  refine Calls.spliced_cons (ld F (by rfl) ?_)
  refine Calls.spliced_nil (ord_of_one (by rfl) ?_)
  refine st F fun h₂ F₂ => ?_
  refine wpAny_execs_cons (wpAny_If (Ev.test F₂ (by w_left) fun tk => ?_))
  cases c1' : decide ((c : Int) < 64976) with
  | true =>
    have c1 := of_decide_eq_true c1'
    rw [decide_eq_true (show ((#[c].getD 0 0 : Nat) : Int) < 64976 from c1), if_pos rfl]
    refine wpAny_execs_cons (wpAny_Return_some (Constant_bool ?_))
    have e : inC4 c = false := by unfold inC4; rw [if_pos c1]
    rw [← e]
    exact h _ ⟨F₂.keep, rfl, id⟩
  | false =>
  have c1 := of_decide_eq_false c1'
  rw [decide_eq_false (show ¬ (((#[c].getD 0 0 : Nat) : Int) < 64976) from c1), if_neg Bool.false_ne_true]
  refine wpAny_execs_nil (wpAny_execs_cons (wpAny_If (Ev.test F₂ (by w_left) fun tk => ?_)))
  cases c2' : decide ((c : Int) < 65008) with
  | true =>
    have c2 := of_decide_eq_true c2'
    rw [decide_eq_true (show ((#[c].getD 0 0 : Nat) : Int) < 65008 from c2), if_pos rfl]
    refine wpAny_execs_cons (wpAny_Return_some (Constant_bool ?_))
    have e : inC4 c = true := by unfold inC4; rw [if_neg c1, if_pos c2]
    rw [← e]
    exact h _ ⟨F₂.keep, rfl, id⟩
  | false =>
  have c2 := of_decide_eq_false c2'
  rw [decide_eq_false (show ¬ (((#[c].getD 0 0 : Nat) : Int) < 65008) from c2), if_neg Bool.false_ne_true]
  have B₂ : Base w mg mb h₂ := B.keeps F₂.keep
  refine wpAny_execs_nil (wpAny_execs_cons (wpAny_Return_some (wpAny_Compare1 (wpAny_BinOp ?_))))
  refine callB (id := "ord") B₂ (by decide) (by rfl) rfl rfl ?_
  refine Calls.spliced_cons (ld F₂ (by rfl) ?_)
  refine Calls.spliced_nil (ord_of_one (by rfl) ?_)
  refine wpAny_Constant_int (and_int ?_)
  refine wpAny_Tuple (wpAny_items_cons (wpAny_Constant_int (wpAny_items_cons (wpAny_Constant_int (wpAny_items_nil ⟨show 2 ≤ sizeLine by decide, ?_⟩)))))
  refine in_tuple_ints (ns := [65534, 65535]) ⟨_, Heap.get?_push_size _ rfl, rfl, _, rfl⟩ (.cons _ _ (.cons _ _ .nil)) ?_
  have e : inC4 c = [65534, 65535].any (· == Builtin.bitAnd (c : Int) 65535) := by unfold inC4; rw [if_neg c1, if_neg c2]
  exact cast (congrArg (fun b => Q (Value.bool b) _) e) (h _ ⟨fun b o e => Heap.get?_push_of_some _ (F₂.keep b o e), rfl, id⟩)

theorem b1_spec {a : Addr} {c : Nat} {t : Tok} {Q : Value → Shared → Prop} (B : Base w mg mb s.heap) (R : Room A 1 10) (Fn : FnAt s.heap mg "in_table_b1" 5 a)
    (h : ∀ s', Kp s s' → Q (.bool (b1L.any (· == (c : Int)))) s') : wpAny (model P w) A (call (.ref a) [.str ⟨#[c]⟩ t]) Q E s :=
  inSet_spec (nm := "in_table_b1") (setn := "b1_set") (i := 5) (l := b1L) (c := c) (t := t) B R Fn B.b1 ⟨_, _, _, _, _, _, rfl⟩ (fun _ _ _ => by rfl) ⟨rfl, rfl, rfl, rfl, rfl, rfl, by decide⟩ (by decide) h
theorem c6_spec {a : Addr} {c : Nat} {t : Tok} {Q : Value → Shared → Prop} (B : Base w mg mb s.heap) (R : Room A 1 10) (Fn : FnAt s.heap mg "in_table_c6" 9 a)
    (h : ∀ s', Kp s s' → Q (.bool (c6L.any (· == (c : Int)))) s') : wpAny (model P w) A (call (.ref a) [.str ⟨#[c]⟩ t]) Q E s :=
  inSet_spec (nm := "in_table_c6") (setn := "c6_set") (i := 9) (l := c6L) (c := c) (t := t) B R Fn B.c6 ⟨_, _, _, _, _, _, rfl⟩ (fun _ _ _ => by rfl) ⟨rfl, rfl, rfl, rfl, rfl, rfl, by decide⟩ (by decide) h
theorem c7_spec {a : Addr} {c : Nat} {t : Tok} {Q : Value → Shared → Prop} (B : Base w mg mb s.heap) (R : Room A 1 10) (Fn : FnAt s.heap mg "in_table_c7" 11 a)
    (h : ∀ s', Kp s s' → Q (.bool (c7L.any (· == (c : Int)))) s') : wpAny (model P w) A (call (.ref a) [.str ⟨#[c]⟩ t]) Q E s :=
  inSet_spec (nm := "in_table_c7") (setn := "c7_set") (i := 11) (l := c7L) (c := c) (t := t) B R Fn B.c7 ⟨_, _, _, _, _, _, rfl⟩ (fun _ _ _ => by rfl) ⟨rfl, rfl, rfl, rfl, rfl, rfl, by decide⟩ (by decide) h
theorem c8_spec {a : Addr} {c : Nat} {t : Tok} {Q : Value → Shared → Prop} (B : Base w mg mb s.heap) (R : Room A 1 10) (Fn : FnAt s.heap mg "in_table_c8" 13 a)
    (h : ∀ s', Kp s s' → Q (.bool (c8L.any (· == (c : Int)))) s') : wpAny (model P w) A (call (.ref a) [.str ⟨#[c]⟩ t]) Q E s :=
  inSet_spec (nm := "in_table_c8") (setn := "c8_set") (i := 13) (l := c8L) (c := c) (t := t) B R Fn B.c8 ⟨_, _, _, _, _, _, rfl⟩ (fun _ _ _ => by rfl) ⟨rfl, rfl, rfl, rfl, rfl, rfl, by decide⟩ (by decide) h
theorem c9_spec {a : Addr} {c : Nat} {t : Tok} {Q : Value → Shared → Prop} (B : Base w mg mb s.heap) (R : Room A 1 10) (Fn : FnAt s.heap mg "in_table_c9" 15 a)
    (h : ∀ s', Kp s s' → Q (.bool (c9L.any (· == (c : Int)))) s') : wpAny (model P w) A (call (.ref a) [.str ⟨#[c]⟩ t]) Q E s :=
  inSet_spec (nm := "in_table_c9") (setn := "c9_set") (i := 15) (l := c9L) (c := c) (t := t) B R Fn B.c9 ⟨_, _, _, _, _, _, rfl⟩ (fun _ _ _ => by rfl) ⟨rfl, rfl, rfl, rfl, rfl, rfl, by decide⟩ (by decide) h

/-- f(sign) within a frame -/
theorem tableCall {f : Str} {i : Nat} {fp p pos : Pos} {r : Bool} {c : Nat} {t : Tok} {Q : Value → Shared → Prop} {a : Addr} {name : Str} {scope : Scope} {L fa : Addr} {cd : Value} {h₀ : Heap} {m : Str → Option Value}
    (B : Base w mg mb s.heap) (F : Fr h₀ L s.heap m) (Fn : FnAt s.heap mg f i a) (hm : m "sign" = some (.str ⟨#[c]⟩ t))
    (spec : (∀ s', Kp s s' → Q (.bool r) s') → wpAny (model P w) A (call (.ref a) [.str ⟨#[c]⟩ t]) Q E s)
    (h : ∀ s', Kp s s' → Q (.bool r) s')
    (hk : scope.kind = .function := by rfl) (hx : (envOf name scope L fa cd).kindOf f = some .globalImplicit := by rfl) (hd : (f == ("__debug__" : Str)) = false := by decide)
    (hl : scope.names.lookup ("sign" : Str) = some .local := by rfl) :
    wpAny (model P w) A (eval (.Call (.Name f fp) [.Name "sign" p] [] pos) (envOf name scope L fa cd)) Q E s := by
  refine callF B Fn rfl (Calls.spliced_cons (ld F hm (Calls.spliced_nil ⟨fun _ _ e => e, spec h⟩) hk hl)) hk hx hd

theorem told_spec {a : Addr} {c : Int} {t : Tok} {Q : Value → Shared → Prop} (B : Base w mg mb s.heap) (R : Room A 2 20) (Fn : FnAt s.heap mg "_law_told" 18 a) (h0 : 0 ≤ c) (h1 : c ≤ 1114111)
    (h : ∀ s' l, Kp s s' → s'.heap.IsList l ((toldOf c).map Value.bool).toArray → s.heap.objs.size ≤ l → Q (.ref l) s') : wpAny (model P w) A (call (.ref a) [.int c t]) Q E s := by
  refine enter (binds := [(("code" : Str), Value.int c t)]) B R Fn (fun _ _ _ => by rfl) (by intro x hx; simp at hx; subst hx; rfl) (fun cd h₁ F => ?_)
  have B₁ : Base w mg mb h₁ := B.keeps F.keep
  have fresh : ∀ {s' : Shared} {h' : Heap}, (∀ b o, s.heap.get? b = some o → h'.get? b = some o) → s.heap.get? h'.objs.size = none := fun {_} {h'} hk => by
    cases e : s.heap.get? h'.objs.size with
    | none => rfl
    | some o => exact absurd (Heap.lt_size (hk _ _ e)) (Nat.lt_irrefl _)
  have body : ∀ {tk : Nat}, ¬ (55296 ≤ c ∧ c ≤ 57343) → wpAny (model P w) (A.deeper (envOf "_law_told" (dSco (stAt 18)) s.heap.objs.size a cd)) (execs ((dBod (stAt 18)).drop 1) (envOf "_law_told" (dSco (stAt 18)) s.heap.objs.size a cd))
      (fun f s' => Q (match f with | .ret v => v | _ => .none) s') (fun _ _ => False) { s with heap := h₁, toks := tk } := by
    intro tk hns
    have R' : Room (A.deeper (envOf "_law_told" (dSco (stAt 18)) s.heap.objs.size a cd)) 1 10 := (R.less (d' := 2) (u' := 13) (by omega) (by omega)).deeper _
    have hcn : ((c.toNat : Nat) : Int) = c := Int.toNat_of_nonneg h0
    refine wpAny_execs_cons (wpAny_Assign_Name ?_)
    refine callB (id := "chr") B₁ (by decide) (by rfl) rfl rfl ?_
    refine Calls.spliced_cons (ld F (by rfl) ?_)
    refine Calls.spliced_nil (chr_of_range h0 h1 ?_)
    refine st F fun h₂ F₂ => ?_
    have B₂ : Base w mg mb h₂ := B.keeps F₂.keep
    refine wpAny_execs_cons (wpAny_Return_some (wpAny_List ?_))
    obtain ⟨a5, f5⟩ := B₂.f5
    refine wpAny_items_cons (tableCall (t := tk) B₂ F₂ f5 (by rfl) (fun h => b1_spec (c := c.toNat) (t := tk) B₂ R' f5 h) fun s₁ K₁ => ?_)
    have B3 : Base w mg mb s₁.heap := B₂.keeps K₁.keep
    have F3 := F₂.keeps K₁.keep
    obtain ⟨a6, f6⟩ := B3.f6
    refine wpAny_items_cons (tableCall (t := tk) B3 F3 f6 (by rfl) (fun h => c11_spec (c := c.toNat) (t := tk) B3 R' f6 h) fun s₂ K₂ => ?_)
    have B4 : Base w mg mb s₂.heap := B3.keeps K₂.keep
    have F4 := F3.keeps K₂.keep
    obtain ⟨a7, f7⟩ := B4.f7
    refine wpAny_items_cons (tableCall (t := tk) B4 F4 f7 (by rfl) (fun h => c4_spec (c := c.toNat) (t := tk) B4 R' f7 h) fun s₃ K₃ => ?_)
    have B5 : Base w mg mb s₃.heap := B4.keeps K₃.keep
    have F5 := F4.keeps K₃.keep
    obtain ⟨a9, f9⟩ := B5.f9
    refine wpAny_items_cons (tableCall (t := tk) B5 F5 f9 (by rfl) (fun h => c6_spec (c := c.toNat) (t := tk) B5 R' f9 h) fun s₄ K₄ => ?_)
    have B6 : Base w mg mb s₄.heap := B5.keeps K₄.keep
    have F6 := F5.keeps K₄.keep
    obtain ⟨a11, f11⟩ := B6.f11
    refine wpAny_items_cons (tableCall (t := tk) B6 F6 f11 (by rfl) (fun h => c7_spec (c := c.toNat) (t := tk) B6 R' f11 h) fun s₅ K₅ => ?_)
    have B7 : Base w mg mb s₅.heap := B6.keeps K₅.keep
    have F7 := F6.keeps K₅.keep
    obtain ⟨a13, f13⟩ := B7.f13
    refine wpAny_items_cons (tableCall (t := tk) B7 F7 f13 (by rfl) (fun h => c8_spec (c := c.toNat) (t := tk) B7 R' f13 h) fun s₆ K₆ => ?_)
    have B8 : Base w mg mb s₆.heap := B7.keeps K₆.keep
    have F8 := F7.keeps K₆.keep
    obtain ⟨a15, f15⟩ := B8.f15
    refine wpAny_items_cons (tableCall (t := tk) B8 F8 f15 (by rfl) (fun h => c9_spec (c := c.toNat) (t := tk) B8 R' f15 h) fun s₇ K₇ => ?_)
    refine wpAny_items_nil ⟨show 7 ≤ sizeLine by decide, ?_⟩
    have F9 := F8.keeps K₇.keep
    have keep := F9.keep
    refine h _ _ ⟨fun b o e => Heap.get?_push_of_some _ (keep b o e), ?_, ?_⟩ ⟨_, Heap.get?_push_size _ rfl, rfl, 0, ?_⟩ (Nat.le_of_lt F9.ns.lt)
    · exact K₇.os.trans (K₆.os.trans (K₅.os.trans (K₄.os.trans (K₃.os.trans (K₂.os.trans K₁.os)))))
    · exact fun hb => K₇.bare (K₆.bare (K₅.bare (K₄.bare (K₃.bare (K₂.bare (K₁.bare hb))))))
    · unfold toldOf
      rw [if_neg hns, hcn]
      rfl
  refine wpAny_execs_cons (wpAny_If (isTrue_chain (wpAny_Constant_int (test_link (ld F (by rfl) (le_int (wpAny_truthy_bool ?_)))))))
  cases c1' : decide (55296 ≤ c) with
  | false =>
    have c1 := of_decide_eq_false c1'
    rw [if_neg Bool.false_ne_true, if_neg Bool.false_ne_true]
    exact wpAny_execs_nil (body (fun x => c1 x.1))
  | true =>
  have c1 := of_decide_eq_true c1'
  rw [if_pos rfl]
  refine test_last (wpAny_Constant_int (le_int (wpAny_truthy_bool ?_)))
  cases c2' : decide (c ≤ 57343) with
  | false =>
    have c2 := of_decide_eq_false c2'
    rw [if_neg Bool.false_ne_true]
    exact wpAny_execs_nil (body (fun x => c2 x.2))
  | true =>
  have c2 := of_decide_eq_true c2'
  rw [if_pos rfl]
  refine wpAny_execs_cons (wpAny_Return_some (wpAny_BinOp (wpAny_List (wpAny_items_cons (Constant_bool (wpAny_items_nil ⟨show 1 ≤ sizeLine by decide, ?_⟩))))))
  refine wpAny_Constant_int ?_
  refine mul_list (k := 0) (news := []) (F.push _) News.nil (Heap.get?_push_size _ rfl) (by decide) (by decide) (by decide) fun h₃ F₃ N₃ => ?_
  refine h _ _ ⟨F₃.keep, rfl, id⟩ ⟨_, (N₃ _ (.head _)).1, rfl, 0, ?_⟩ (Nat.le_of_lt (F.push _).ns.lt)
  have e : toldOf c = List.replicate 7 false := by unfold toldOf; rw [if_pos ⟨c1, c2⟩]
  rw [e]
  rfl
end
end Mine
end

section
open PySem PySem.W PyProof.Rows
set_option maxRecDepth 100000
namespace Mine

section
variable {w : World} {A : Around} {s : Shared} {env : Env}

/-- no way raises: any other end will do -/
theorem calm {α : Type} {M : Model} {A : Around} {t : Sem α} {Q : α → Shared → Prop} {E : Value → Shared → Prop} {s : Shared} (h : wpAny M A t Q (fun _ _ => False) s) : wpAny M A t Q E s :=
  wpAny_mono h (fun _ _ x => x) fun _ _ x => x.elim

/-- a for over a list, its items one by one -/
theorem forLoop_list {It ax : Addr} {items : Array Value} {target : Expr} {body : List Stmt} {R : Result → Shared → Prop} (J : Nat → Shared → Prop) (hh : A.handled = none) (hne : ax ≠ It)
    (hJ : ∀ i s h', J i s → Heap.SameBut It s.heap h' → J i { s with heap := h' })
    (step : ∀ i v s₁, items[i]? = some v → J i s₁ → s₁.heap.IsListIter It ax (i + 1) → s₁.heap.IsList ax items →
      wpAny (model P w) A (letOwnedTupleGo target (.ref It) v) (fun _ s₂ => wpAny (model P w) A (assign target env v) (fun _ s₃ => wpAny (model P w) A (execs body env)
        (fun f s₄ => match f with
          | .next | .cont => J (i + 1) s₄ ∧ s₄.heap.IsListIter It ax (i + 1) ∧ s₄.heap.IsList ax items
          | .brk => R (.ok .next) s₄
          | .ret v => R (.ok (.ret v)) s₄) (fun _ _ => False) s₃) (fun _ _ => False) s₂) (fun _ _ => False) s₁)
    (fin : ∀ s h', J items.size s → Heap.ExtBut It s.heap h' → R (.ok .next) { s with heap := h' })
    (h0 : J 0 s) (hit : s.heap.IsListIter It ax 0) (hl : s.heap.IsList ax items) :
    codeAny (model P w) A (.forLoop target (.ref It) body [] env) R s := by
  refine codeAny_forLoop_any (fun k s' => ∃ i, k = items.size + 1 - i ∧ i ≤ items.size ∧ J i s' ∧ s'.heap.IsListIter It ax i ∧ s'.heap.IsList ax items) ?_ (items.size + 1) ⟨0, rfl, Nat.zero_le _, h0, hit, hl⟩
  rintro k s' ⟨i, rfl, hi, hj, hit', hl'⟩
  by_cases hlt : i < items.size
  · refine wpAny_pyNext_list_item hit' hl' (x := items[i]) (by simp [hlt]) fun h₁ hit₁ hs₁ => ?_
    refine calm (wpAny_mono (step i items[i] { s' with heap := h₁ } (by simp [hlt]) (hJ _ _ _ hj hs₁) hit₁ (hl'.extBut hs₁.extBut hne)) (fun _ s₂ h₂ => ?_) fun _ _ x => x)
    refine calm (wpAny_mono h₂ (fun _ s₃ h₃ => ?_) fun _ _ x => x)
    refine calm (wpAny_mono h₃ (fun f s₄ h₄ => ?_) fun _ _ x => x)
    cases f with
    | next => exact ⟨_, by omega, i + 1, rfl, hlt, h₄⟩
    | cont => exact ⟨_, by omega, i + 1, rfl, hlt, h₄⟩
    | brk => exact h₄
    | ret v => exact h₄
  · have e : i = items.size := by omega
    subst e
    exact wpAny_pyNext_list_end hh hit' hl' (by simp) fun h' he' => wpAny_execs_nil (fin _ _ hj he')

theorem notOwned {elts : List Expr} {k : Nat} {p : Pos} {It ax i : Nat} {v : Value} {Q : Unit → Shared → Prop} {E : Value → Shared → Prop} (hit : s.heap.IsListIter It ax i) (h : Q () s) :
    wpAny (model P w) A (letOwnedTupleGo (.Tuple elts k p) (.ref It) v) Q E s := by
  obtain ⟨o, ho, hc, hd⟩ := hit
  cases v with
  | ref a =>
    show wpAny _ _ (load It >>= _) Q E s
    refine wpAny_bind (wpAny_load ho ?_)
    rw [hc, hd]
    exact wpAny_pure h
  | _ => exact wpAny_pure h

theorem unpack_two {l : Addr} {x y : Value} {E : Value → Shared → Prop} {Q : List Value → Shared → Prop} (hh : A.handled = none) (hl : s.heap.IsList l #[x, y])
    (hQ : ∀ h', Heap.ExtBut s.heap.objs.size s.heap h' → Q [x, y] { s with heap := h' }) : wpAny (model P w) A (unpackItems (.ref l) 2 none) Q E s := by
  have hlt : l ≠ s.heap.objs.size := by obtain ⟨o, ho, _⟩ := hl; exact Nat.ne_of_lt (Heap.lt_size ho)
  unfold unpackItems
  refine wpAny_bind ?_
  unfold notIterableAtAll
  refine wpAny_bind (wpAny_specialOf hl.typeIs slot_list_iter.lookup ?_)
  refine wpAny_pure ?_
  simp only [Bool.false_eq_true, if_false]
  refine wpAny_bind (wpAny_holding (wpAny_pyIter_list hl ?_))
  refine wpAny_bind (wpAny_holding ?_)
  show wpAny _ _ (pyNext _ >>= _) _ _ _
  refine wpAny_bind (wpAny_pyNext_list_item (i := 0) (x := x) ⟨_, Heap.get?_push_size _ rfl, rfl, rfl⟩ (hl.push _) rfl fun h₁ hit₁ hs₁ => ?_)
  refine wpAny_bind (wpAny_holding ?_)
  show wpAny _ _ (pyNext _ >>= _) _ _ _
  have hl₁ := (hl.push { cls := .type "list_iterator", data := .fields #[.ref l, .int 0 0] }).extBut hs₁.extBut hlt
  refine wpAny_bind (wpAny_pyNext_list_item (i := 1) (x := y) hit₁ hl₁ rfl fun h₂ hit₂ hs₂ => ?_)
  refine wpAny_bind (wpAny_holding (wpAny_pure (wpAny_pure (wpAny_pure ?_))))
  rw [if_neg (by simp)]
  have hl₂ := hl₁.extBut hs₂.extBut hlt
  refine wpAny_bind (wpAny_holding (wpAny_pyNext_list_end hh hit₂ hl₂ rfl fun h₃ he₃ => ?_))
  simp only [Option.isSome_none, Bool.false_eq_true, if_false]
  exact wpAny_pure (hQ h₃ fun b o hb e => he₃ b o hb (hs₂.extBut b o hb (hs₁.extBut b o hb (Heap.get?_push_of_some _ e))))
end
end Mine
end

section
open PySem PySem.W PyProof.Rows
set_option maxRecDepth 100000
namespace Mine

/-- as it was, but for the addresses X -/
structure Ku (X : List Addr) (s s' : Shared) : Prop where
  keep : ∀ b o, b ∉ X → s.heap.get? b = some o → s'.heap.get? b = some o
  os : s'.os = s.os
  bare : AllBare s.gens → AllBare s'.gens
theorem Ku.refl (X : List Addr) (s : Shared) : Ku X s s := ⟨fun _ _ _ e => e, rfl, id⟩
theorem Ku.trans {X : List Addr} {a b c : Shared} (x : Ku X a b) (y : Ku X b c) : Ku X a c := ⟨fun _ _ n e => y.keep _ _ n (x.keep _ _ n e), y.os.trans x.os, fun h => y.bare (x.bare h)⟩
theorem Kp.ku {s s' : Shared} (x : Kp s s') (X : List Addr) : Ku X s s' := ⟨fun b o _ e => x.keep b o e, x.os, x.bare⟩
theorem Ku.mono {X Y : List Addr} {s s' : Shared} (x : Ku X s s') (h : ∀ b ∈ X, b ∈ Y) : Ku Y s s' := ⟨fun b o n e => x.keep b o (fun m => n (h b m)) e, x.os, x.bare⟩
theorem Ku.heap {X : List Addr} {s s' : Shared} (x : Ku X s s') {h' : Heap} {tk : Nat} (hk : ∀ b o, b ∉ X → s'.heap.get? b = some o → h'.get? b = some o) : Ku X s { s' with heap := h', toks := tk } :=
  ⟨fun b o n e => hk b o n (x.keep b o n e), x.os, x.bare⟩

section
variable {w : World} {A : Around} {E : Value → Shared → Prop} {s : Shared} {env : Env}

theorem neA {a b : Nat} (h : a ≠ b) : a ≠ b := h
theorem ltA {a b : Nat} (h : a < b) : a < b := h

theorem noneFrom {h : Heap} {a : Addr} (ha : h.objs.size ≤ a) : h.get? a = none := by
  cases e : h.get? a with
  | none => rfl
  | some o => exact absurd (Heap.lt_size e) (Nat.not_lt.mpr ha)

/-- a comprehension with one for: what holds item by item -/
theorem listcomp {elt iter : Expr} {x : Str} {px : Pos} {ifs : List Expr} {scope : Scope} {cl : List (Str × Addr)} {pos : Pos} {Q : Value → Shared → Prop}
    (hclos : closureFor scope env = pure cl) (hcell : ∀ y ∈ scope.names, y.2 ≠ .cell) (hkind : scope.kind = .function)
    (hnames : ∀ y ∈ scope.names, y.2 = .local → scope.names.lookup y.1 = some .local) (hx : scope.names.lookup x = some .local)
    (h : wpAny (model P w) A (eval iter env) (fun xv s₁ => wpAny (model P w) A (pyIter xv) (fun it s₂ => ∃ I fp wr n Pv St, it = .ref I ∧ Walks P w A I fp wr n Pv St ∧ n ≤ sizeLine ∧ St 0 s₂.heap ∧ (∀ b ∈ fp, b < s₂.heap.objs.size) ∧
      ∃ Inv : Nat → List Value → Heap → Prop, Inv 0 [] s₂.heap ∧
        (∀ i ys h h', Inv i ys h → (∀ (b : Nat) o, b < s₂.heap.objs.size ∨ s₂.heap.objs.size + 2 ≤ b → b ∉ wr → h.get? b = some o → h'.get? b = some o) → Inv i ys h') ∧
        (∀ i v ys s₃ m₃, Pv i v → ys.length ≤ i → s₃.heap.Ns (s₂.heap.objs.size + 1) m₃ → m₃ x = some v → Inv i ys s₃.heap → (∀ b o, b ∉ wr → s₂.heap.get? b = some o → s₃.heap.get? b = some o) →
          wpAny (model P w) A (forIn ifs true fun c r => if r = true then do let ok ← isTrue c (compEnvC scope cl (s₂.heap.objs.size + 1) env) (eval c (compEnvC scope cl (s₂.heap.objs.size + 1) env)); pure (ForInStep.yield ok) else pure (ForInStep.yield r))
            (fun ok s₄ => Kp s₃ s₄ ∧ if ok = true then wpAny (model P w) A (eval elt (compEnvC scope cl (s₂.heap.objs.size + 1) env)) (fun y s₅ => Kp s₄ s₅ ∧ Inv (i + 1) (ys ++ [y]) s₅.heap) (fun _ _ => False) s₄ else Inv (i + 1) ys s₄.heap)
            (fun _ _ => False) s₃) ∧
        (∀ s' ys, s'.heap.PlainList s₂.heap.objs.size ys.toArray → Inv n ys s'.heap → Ku wr s₂ s' → Q (.ref s₂.heap.objs.size) s')) E s₁) E s)
    (hs : ∀ x, foldedSetIterable iter env x = pure x := by intro _; rfl) :
    wpAny (model P w) A (eval (.ListComp elt [⟨.Name x px, iter, ifs, 0⟩] scope pos) env) Q E s := by
  rw [eval_ListComp]
  refine wpAny_comprehension_free (use := none) rfl hs hclos hkind hnames (wpAny_mono h (fun xv s₁ h₁ => wpAny_mono h₁ (fun it s₂ h₂ => ?_) fun _ _ e => e) fun _ _ e => e)
  obtain ⟨I, fp, wr, n, Pv, St, rfl, W, hsz, hst, hfp, Inv, i0, istab, turn, fin⟩ := h₂
  refine wpAny_newObj_type (wpAny_newFunctionEnv hcell (by intro y hy; simp at hy) (fun h₁ hns₁ hsb₁ => ?_) hkind)
  dsimp only at hns₁ hsb₁ ⊢
  generalize hD : s₂.heap.objs.size = D at *
  have hC : (s₂.heap.push { cls := .type "list", dict := none, data := .seq ([] : List Value).toArray }).objs.size = D + 1 := by rw [Heap.size_push, hD]
  rw [hC] at hns₁ hsb₁ ⊢
  have old : ∀ b o, s₂.heap.get? b = some o → h₁.get? b = some o := fun b o e => by
    have hb := ltA (Heap.lt_size e)
    rw [hD] at hb
    exact hsb₁.extBut b o (neA (by omega)) (Heap.get?_push_of_some _ (Heap.get?_push_of_some _ e))
  have hacc : h₁.PlainList D #[] := by
    have e : (s₂.heap.push { cls := .type "list", dict := none, data := .seq ([] : List Value).toArray }).get? D = some { cls := .type "list", dict := none, data := .seq ([] : List Value).toArray } := by
      rw [← hD]; exact Heap.get?_push_size _ rfl
    exact ⟨_, hsb₁.extBut D _ (neA (by omega)) (Heap.get?_push_of_some _ e)⟩
  have hDf : D ∉ fp := fun hm => Nat.lt_irrefl _ (hfp _ hm)
  have hCf : D + 1 ∉ fp := fun hm => by have := ltA (hfp _ hm); omega
  have hwl : ∀ b ∈ wr, b < D := fun b hb => hfp b (W.sub b hb)
  have hst₁ : St 0 h₁ := W.frame _ _ _ hst fun b _ o e => old b o e
  have loop : codeAny (model P w) A (.compLoop (.ListComp elt [⟨.Name x px, iter, ifs, 0⟩] scope pos) 0 (.ref I) (.ref D) (compEnvC scope cl (D + 1) env))
        (compPost (model P w) A E none Q (.ref D) (D + 1)) { s₂ with heap := h₁, toks := s₂.toks + ([] : List (Str × Value)).length } := by
    refine codeAny_compLoop_tests (fun k s' => ∃ i ys m', k = n + 1 - i ∧ i ≤ n ∧ St i s'.heap ∧ s'.heap.PlainList D ys.toArray ∧ ys.length ≤ i ∧ s'.heap.Ns (D + 1) m' ∧ Inv i ys s'.heap ∧ Ku (D :: (D + 1) :: wr) { s₂ with heap := h₁ } s')
      ?_ (n + 1) ⟨0, [], _, rfl, Nat.zero_le _, hst₁, hacc, Nat.le_refl _, hns₁, istab _ _ _ _ i0 (fun b o _ _ e => old b o e), Ku.refl _ _⟩
    rintro k s' ⟨i, ys, m', rfl, hi, hst', hpl, hlen, hns, hinv, hku⟩
    have oldK : ∀ b o, b ∉ wr → s₂.heap.get? b = some o → s'.heap.get? b = some o := fun b o hb e => by
      have hlt := ltA (Heap.lt_size e)
      rw [hD] at hlt
      exact hku.keep b o (by simp only [List.mem_cons, not_or]; exact ⟨neA (by omega), neA (by omega), hb⟩) (old b o e)
    by_cases hlt : i < n
    · refine W.item i _ _ _ hlt hst' fun v h₂ tk₂ hP hst₂ hk₂ => ?_
      have hDw : D ∉ wr := fun hm => Nat.lt_irrefl _ (hwl _ hm)
      have hCw : D + 1 ∉ wr := fun hm => by have := ltA (hwl _ hm); omega
      refine wpAny_assign_Name (wpAny_storeName_local (env := compEnvC scope cl (D + 1) env) (lookup_relabel_local hx) (hns.at' fun o e => hk₂ _ o hCw e) (fun h₃ hn₃ hs₃ => ?_) (by simp [compEnvC, relabel, hkind]))
      have k3 : ∀ b o, b ≠ D + 1 → b ∉ wr → s'.heap.get? b = some o → h₃.get? b = some o := fun b o h1 h2 e => hs₃.extBut b o h1 (hk₂ b o h2 e)
      have hpl₃ : h₃.PlainList D ys.toArray := hpl.at fun o e => k3 D o (neA (by omega)) hDw e
      have hst₃ : St (i + 1) h₃ := W.frame _ _ _ hst₂ fun b hb o e => hs₃.extBut b o (fun h : b = D + 1 => hCf (h ▸ hb)) e
      have hinv₃ : Inv i ys h₃ := istab _ _ _ _ hinv fun b o hb hw e => k3 b o (neA (by omega)) hw e
      have ku₃ : Ku (D :: (D + 1) :: wr) { s₂ with heap := h₁ } { s' with heap := h₃, toks := tk₂ + 1 } := hku.heap fun b o hb e => by
        simp only [List.mem_cons, not_or] at hb
        exact k3 b o hb.2.1 hb.2.2 e
      refine calm (wpAny_mono (turn i v ys { s' with heap := h₃, toks := tk₂ + 1 } _ hP hlen hn₃ (by simp) hinv₃ (fun b o hb e => by
        have hlt := ltA (Heap.lt_size e)
        rw [hD] at hlt
        exact k3 b o (neA (by omega)) hb (oldK b o hb e))) (fun ok s₄ h₄ => ?_) fun _ _ x => x)
      obtain ⟨K₄, h₄⟩ := h₄
      cases ok with
      | false =>
        rw [if_neg Bool.false_ne_true] at h₄ ⊢
        exact ⟨_, by omega, i + 1, ys, _, rfl, hlt, W.frame _ _ _ hst₃ (fun b _ o e => K₄.keep b o e), hpl₃.at (fun o e => K₄.keep _ o e), by omega, hn₃.keeps K₄.keep, h₄, ku₃.trans (K₄.ku _)⟩
      | true =>
        rw [if_pos rfl] at h₄ ⊢
        refine calm (wpAny_mono h₄ (fun y s₅ h₅ => ?_) fun _ _ x => x)
        obtain ⟨K₅, hinv₅⟩ := h₅
        have K₃₅ : ∀ b o, h₃.get? b = some o → s₅.heap.get? b = some o := fun b o e => K₅.keep _ _ (K₄.keep _ _ e)
        refine wpAny_list_append_plain (hpl₃.at fun o e => K₃₅ _ o e) (fun h₆ hpl₆ hs₆ => ?_) (by rw [List.size_toArray]; omega)
        refine ⟨_, by omega, i + 1, ys ++ [y], (fun z => if z = x then some v else m' z), rfl, hlt, ?_, ?_, ?_, ?_, ?_, ?_⟩
        · exact W.frame _ _ _ hst₃ fun b hb o e => hs₆.extBut b o (fun h : b = D => hDf (h ▸ hb)) (K₃₅ _ _ e)
        · have e : ys.toArray.push y = (ys ++ [y]).toArray := by simp
          rw [← e]; exact hpl₆
        · simp; omega
        · exact (hn₃.keeps K₃₅).at' fun o e => hs₆.extBut (D + 1) o (neA (by omega)) e
        · exact istab _ _ _ _ hinv₅ fun b o hb _ e => hs₆.extBut b o (neA (by omega)) e
        · have := (ku₃.trans (K₄.ku _)).trans (K₅.ku _)
          exact ⟨fun b o hb e => hs₆.extBut b o (fun h => hb (by simp [h])) (this.keep b o hb e), this.os, this.bare⟩
    · have e : i = n := by omega
      subst e
      refine W.done _ _ _ hst' fun h₂ tk₂ hk₂ => ?_
      have hDw : D ∉ wr := fun hm => Nat.lt_irrefl _ (hwl _ hm)
      have hCw : D + 1 ∉ wr := fun hm => by have := ltA (hwl _ hm); omega
      refine ⟨m', hns.at' fun o e => hk₂ _ o hCw e, fun h₃ hs₃ => fin _ ys ?_ ?_ ?_⟩
      · exact (hpl.at fun o e => hk₂ D o hDw e).extBut hs₃.extBut (neA (by omega))
      · exact istab _ _ _ _ hinv fun b o hb hw e => hs₃.extBut b o (neA (by omega)) (hk₂ b o hw e)
      · exact ⟨fun b o hb e => hs₃.extBut b o (neA (by have := ltA (Heap.lt_size e); omega)) (hk₂ b o hb (oldK b o hb e)), hku.os, hku.bare⟩
  exact codeAny_compStart_list loop (W.self 0 _ _ _ hst₁ loop)
end
end Mine
end

section
open PySem PySem.W PyProof.Rows
set_option maxRecDepth 100000
namespace Mine
local macro_rules | `(tactic| w_left) => `(tactic| repeat' (first | exact EvR.cint | exact EvR.cbool | (refine' EvR.loc (by rfl) (by rfl) (by decide)) | refine' EvR.add ?_ ?_ | refine' EvR.sub ?_ ?_ | refine' EvR.mul ?_ ?_ ?_ | refine' EvR.div ?_ ?_ ?_ ?_ | refine' EvR.mod ?_ ?_ ?_ | refine' EvR.neg ?_ | refine' EvR.eq ?_ ?_ | refine' EvR.lt ?_ ?_ | refine' EvR.gt ?_ ?_ | (refine' EvR.loc (by assumption) (by rfl) (by decide))))

section
variable {w : World} {A : Around} {E : Value → Shared → Prop} {s : Shared} {mg mb : Str → Option Value} {name : Str} {scope : Scope} {L fa : Addr} {cd : Value}

theorem back_cons {pos : Pos} {e : Expr} {es : List Expr} {env : Env} (he : starEach (e :: es) env = (false, eval e env) :: starEach es env) :
    backTo pos (starEach (e :: es) env) = (false, eval e env) :: backTo pos (starEach es env) := by rw [he]; rfl

theorem callB2 {f : Str} {id : String} {fp pos : Pos} {e : Expr} {es : List Expr} {Q : Value → Shared → Prop} (B : Base w mg mb s.heap)
    (hf : f ∈ freeNames) (hv : bootBuiltins f = some (.builtin id))
    (h : wpAny (model P w) A (spliced (backTo pos (starEach (e :: es) (envOf name scope L fa cd)))) (fun vs s₁ => wpAny (model P w) A (call (.builtin id) vs) Q E s₁) E s)
    (hpl : (backTo pos (starEach (e :: es) (envOf name scope L fa cd))).any (·.1) = false := by rfl)
    (he : starEach (e :: es) (envOf name scope L fa cd) = (false, eval e (envOf name scope L fa cd)) :: starEach es (envOf name scope L fa cd) := by rfl)
    (hk : scope.kind = .function := by rfl) (hx : (envOf name scope L fa cd).kindOf f = some .globalImplicit := by rfl) (hd : (f == ("__debug__" : Str)) = false := by decide)
    (hn : f ≠ "__name__" := by decide) :
    wpAny (model P w) A (eval (.Call (.Name f fp) (e :: es) [] pos) (envOf name scope L fa cd)) Q E s := by
  rw [back_cons he] at h hpl
  exact callB B hf hv (back_cons he) hpl h hk hx hd hn

theorem callF2 {f : Str} {i : Nat} {fp pos : Pos} {e : Expr} {es : List Expr} {Q : Value → Shared → Prop} {a : Addr} (B : Base w mg mb s.heap) (Fn : FnAt s.heap mg f i a)
    (h : wpAny (model P w) A (spliced (backTo pos (starEach (e :: es) (envOf name scope L fa cd)))) (fun vs s₁ => (∀ b o, s.heap.get? b = some o → s₁.heap.get? b = some o) ∧ wpAny (model P w) A (call (.ref a) vs) Q E s₁) E s)
    (he : starEach (e :: es) (envOf name scope L fa cd) = (false, eval e (envOf name scope L fa cd)) :: starEach es (envOf name scope L fa cd) := by rfl)
    (hk : scope.kind = .function := by rfl) (hx : (envOf name scope L fa cd).kindOf f = some .globalImplicit := by rfl) (hd : (f == ("__debug__" : Str)) = false := by decide) :
    wpAny (model P w) A (eval (.Call (.Name f fp) (e :: es) [] pos) (envOf name scope L fa cd)) Q E s := by
  rw [back_cons he] at h
  exact callF B Fn (back_cons he) h hk hx hd

/-- l.append(e) as a statement -/
theorem appendS {x : Str} {p ap pos sp : Pos} {e : Expr} {D : Addr} {ys : List Value} {v : Value} {Q : Flow → Shared → Prop} {h₀ : Heap} {m : Str → Option Value}
    (F : Fr h₀ L s.heap m) (hm : m x = some (.ref D)) (hl : s.heap.PlainList D ys.toArray) (hz : ys.length ≤ 4096)
    (he : ∀ {Q : Value → Shared → Prop}, (∀ tk, Q v { s with toks := tk }) → wpAny (model P w) A (eval e (envOf name scope L fa cd)) Q E s)
    (h : ∀ h' tk, h'.PlainList D (ys ++ [v]).toArray → Heap.SameBut D s.heap h' → Q .next { s with heap := h', toks := tk })
    (hline : (ap.endLine == pos.line) = true) (hs : swapsWith (.Call (.Attribute (.Name x p) "append" ap) [e] [] pos) none sp.line (envOf name scope L fa cd) = pure false)
    (hargs : backTo pos (starEach [e] (envOf name scope L fa cd)) = [(false, eval e (envOf name scope L fa cd))])
    (hk : scope.kind = .function := by rfl) (hx : scope.names.lookup x = some .local := by rfl) (hd : (x == ("__debug__" : Str)) = false := by decide) (hi : interactive (envOf name scope L fa cd) = false := by rfl) :
    wpAny (model P w) A (exec (.Expr (.Call (.Attribute (.Name x p) "append" ap) [e] [] pos) sp) (envOf name scope L fa cd)) Q E s := by
  refine wpAny_Expr (wpAny_Call_method (T := "list") (id := "list.append") rfl (by rw [hargs]; rfl) hline PySem.F.plainAttrs_list slot_list_append PySem.F.type_list_append (ld F hm ?_ hk hx hd)) hi hs
  obtain ⟨n, ho⟩ := id hl
  refine ⟨⟨_, ho, rfl⟩, fun a ea => by cases ea; exact ⟨_, ho, rfl⟩, ?_⟩
  rw [hargs]
  refine Calls.callWith_builtin rfl (Calls.evalArgs_plain (Calls.spliced_cons (he fun tk => Calls.spliced_nil ?_)))
  refine wpAny_list_append_plain (hl) (fun h' hl' hs' => ?_) (by rw [List.size_toArray]; show _ ≤ 2 ^ 24; omega)
  have e : ys.toArray.push v = (ys ++ [v]).toArray := by simp
  rw [e] at hl'
  exact h h' tk hl' hs'

/-- l.extend(e) as a statement: e makes a new list -/
theorem extendS {x : Str} {p ap pos sp : Pos} {e : Expr} {D : Addr} {ys : List Value} {Q : Flow → Shared → Prop} {h₀ : Heap} {m : Str → Option Value}
    (F : Fr h₀ L s.heap m) (hm : m x = some (.ref D)) (hl : s.heap.PlainList D ys.toArray) (hz : ys.length ≤ 4096)
    (he : wpAny (model P w) A (eval e (envOf name scope L fa cd)) (fun r s₁ => ∃ l zs, r = .ref l ∧ s₁.heap.PlainList l zs.toArray ∧ zs.length ≤ 4096 ∧ s₁.heap.PlainList D ys.toArray ∧
      ∀ h', h'.PlainList D (ys ++ zs).toArray → Heap.SameBut D s₁.heap h' → Q .next { s₁ with heap := h' }) E s)
    (hline : (ap.endLine == pos.line) = true) (hs : swapsWith (.Call (.Attribute (.Name x p) "extend" ap) [e] [] pos) none sp.line (envOf name scope L fa cd) = pure false)
    (hargs : backTo pos (starEach [e] (envOf name scope L fa cd)) = [(false, eval e (envOf name scope L fa cd))])
    (hk : scope.kind = .function := by rfl) (hx : scope.names.lookup x = some .local := by rfl) (hd : (x == ("__debug__" : Str)) = false := by decide) (hi : interactive (envOf name scope L fa cd) = false := by rfl) :
    wpAny (model P w) A (exec (.Expr (.Call (.Attribute (.Name x p) "extend" ap) [e] [] pos) sp) (envOf name scope L fa cd)) Q E s := by
  refine wpAny_Expr (wpAny_Call_method (T := "list") (id := "list.extend") rfl (by rw [hargs]; rfl) hline PySem.F.plainAttrs_list PySem.F.slot_list_extend PySem.F.type_list_extend (ld F hm ?_ hk hx hd)) hi hs
  obtain ⟨n, ho⟩ := id hl
  refine ⟨⟨_, ho, rfl⟩, fun a ea => by cases ea; exact ⟨_, ho, rfl⟩, ?_⟩
  rw [hargs]
  refine Calls.callWith_builtin rfl (Calls.evalArgs_plain (Calls.spliced_cons (wpAny_mono he (fun r s₁ h₁ => ?_) fun _ _ x => x)))
  obtain ⟨l, zs, rfl, ⟨n1, hl1⟩, hz1, ⟨n2, hl2⟩, hq⟩ := h₁
  refine Calls.spliced_nil ?_
  have hz0 : ¬ (!ys.toArray.isEmpty && Builtin.List.listTooLong (ys.toArray.size + zs.toArray.size)) = true := by
    have : Builtin.List.listTooLong (ys.toArray.size + zs.toArray.size) = false := by
      unfold Builtin.List.listTooLong
      simp only [List.size_toArray]
      exact decide_eq_false (by show ¬ (_ > 2 ^ 24); omega)
    rw [this]; simp
  refine call_meets PySem.F.slot_list_extend ⟨_, hl2, rfl⟩ PySem.F.entry_list_extend (PySem.F.args_list_extend_2 _ _) (AutoSeq1.list_extend_list_list_0 D ys.toArray n2 l zs.toArray n1 hz0
    (by rw [List.size_toArray]; show _ ≤ 2 ^ 24; omega) (by rw [List.size_toArray, List.size_toArray]; show _ ≤ 2 ^ 24 + 1; omega)) ⟨hl2, hl1, ?_⟩
  have e : ys.toArray ++ zs.toArray = (ys ++ zs).toArray := by simp
  have e2 : ∃ n', Obj.mapSeq (fun x => x ++ zs.toArray) { cls := .type "list", dict := none, data := .seq ys.toArray n2, slots := #[] } = { cls := .type "list", dict := none, data := .seq (ys.toArray ++ zs.toArray) n', slots := #[] } := ⟨_, rfl⟩
  obtain ⟨n', e2⟩ := e2
  refine hq _ ⟨n', ?_⟩ (Heap.SameBut.update ..)
  rw [← e]
  exact (Heap.get?_update_self (Obj.mapSeq fun x => x ++ zs.toArray) hl2 (by rw [e2]; rfl)).trans (congrArg some e2)

/-- range(a, b) -/
theorem rangeE {p pos : Pos} {e1 e2 : Expr} {a b : Int} {Q : Value → Shared → Prop} {h₀ : Heap} {m : Str → Option Value} (B : Base w mg mb s.heap) (F : Fr h₀ L s.heap m)
    (x1 : Ev scope m e1 (.i a)) (x2 : Ev scope m e2 (.i b))
    (h : ∀ r t u v tk, r = s.heap.objs.size → Q (.ref r) { s with heap := s.heap.push { cls := .type "range", data := .fields #[.int a t, .int b u, .int 1 v] }, toks := tk })
    (hargs : backTo pos (starEach [e1, e2] (envOf name scope L fa cd)) = [(false, eval e1 (envOf name scope L fa cd)), (false, eval e2 (envOf name scope L fa cd))])
    (hk : scope.kind = .function := by rfl) (hx : (envOf name scope L fa cd).kindOf "range" = some .globalImplicit := by rfl) :
    wpAny (model P w) A (eval (.Call (.Name "range" p) [e1, e2] [] pos) (envOf name scope L fa cd)) Q E s := by
  refine wpAny_Call_NameR (ldb B (by decide) (v := .type "range") (by rfl) ?_ hk hx)
  rw [hargs]
  refine callWith_excType rfl (Calls.evalArgs_plain (Calls.spliced_cons (Ev.int F x1 (fun t1 tk1 => ?_) hk)))
  refine Calls.spliced_cons (Ev.int (s := { s with toks := tk1 }) F x2 (fun t2 tk2 => Calls.spliced_nil ?_) hk)
  exact call_range_2 (h _ _ _ _ _ rfl)
end
end Mine
end

section
open PySem PySem.W PyProof.Rows
set_option maxRecDepth 100000
namespace Mine
local macro_rules | `(tactic| w_left) => `(tactic| repeat' (first | exact EvR.cint | exact EvR.cbool | (refine' EvR.loc (by rfl) (by rfl) (by decide)) | refine' EvR.add ?_ ?_ | refine' EvR.sub ?_ ?_ | refine' EvR.mul ?_ ?_ ?_ | refine' EvR.div ?_ ?_ ?_ ?_ | refine' EvR.mod ?_ ?_ ?_ | refine' EvR.neg ?_ | refine' EvR.eq ?_ ?_ | refine' EvR.lt ?_ ?_ | refine' EvR.gt ?_ ?_ | (refine' EvR.loc (by assumption) (by rfl) (by decide))))

def leastOf (start step lo : Int) : Int := if -((start - lo).fdiv step) > 0 then -((start - lo).fdiv step) else 0
def mostOf (start step last hi : Int) : Int := if (hi - start).fdiv step < last then (hi - start).fdiv step else last
def rungsOf (start step last lo hi : Int) : List Int := (rangeInts (leastOf start step lo) 1 (mostOf start step last hi + 1 - leastOf start step lo).toNat).map fun r => 1 + r
def divOne (first start step last : Int) (r : Int × Int) : List Int := (if r.1 ≤ first ∧ first ≤ r.2 then [0] else []) ++ rungsOf start step last r.1 r.2
def divOf (first start step last : Int) (rs : List (Int × Int)) : List Int := rs.flatMap (divOne first start step last)

def divBody : List Stmt := match dBod (stAt 20) with
  | _ :: .For _ _ b _ _ :: _ => b
  | _ => []

/-- a list of pairs, each a list of two ints -/
def RunsAt (h : Heap) (rl : Addr) (rs : List (Int × Int)) : Prop :=
  ∃ vs : List Value, h.IsList rl vs.toArray ∧ vs.length = rs.length ∧ ∀ (i : Nat) v, vs[i]? = some v → ∃ a t u r, v = .ref a ∧ rs[i]? = some r ∧ h.IsList a #[.int r.1 t, .int r.2 u]
theorem RunsAt.keeps {h h' : Heap} {rl rs} (x : RunsAt h rl rs) (hk : ∀ b o, h.get? b = some o → h'.get? b = some o) : RunsAt h' rl rs :=
  let ⟨vs, a, b, c⟩ := x
  ⟨vs, a.at fun o e => hk _ o e, b, fun i v e => let ⟨a, t, u, r, e1, e2, e3⟩ := c i v e; ⟨a, t, u, r, e1, e2, e3.at fun o e => hk _ o e⟩⟩

section
variable {w : World} {A : Around} {E : Value → Shared → Prop} {s : Shared} {mg mb : Str → Option Value}

theorem ldE {env : Env} {m : Str → Option Value} {x : Str} {p : Pos} {v : Value} {Q : Value → Shared → Prop} (hn : s.heap.Ns env.locals m) (hv : m x = some v) (h : Q v s)
    (hk : env.scope.kind = .function := by rfl) (hl : env.kindOf x = some .local := by rfl) (hd : (x == ("__debug__" : Str)) = false := by decide) : wpAny (model P w) A (eval (.Name x p) env) Q E s :=
  wpAny_Name (wpAny_loadName_local hk hl hn hv h) hd

theorem stS {name : Str} {scope : Scope} {L fa : Addr} {cd : Value} {h₀ : Heap} {m : Str → Option Value} {x : Str} {v : Value} {Q : Unit → Shared → Prop} (F : Fr h₀ L s.heap m)
    (h : ∀ h', Fr h₀ L h' (fun y => if y = x then some v else m y) → Heap.SameBut L s.heap h' → Q () { s with heap := h', toks := s.toks + 1 })
    (hk : scope.kind = .function := by rfl) (hl : (envOf name scope L fa cd).kindOf x = some .local := by rfl) :
    wpAny (model P w) A (storeName (envOf name scope L fa cd) x v) Q E s :=
  wpAny_storeName_local hl F.ns (fun h' hn hs => h h' (F.set hn hs) hs)
    (by show (scope.kind == .class || (scope.kind == .module && L != mainGlobals)) = false; rw [hk]; rfl)

theorem maxV {a b : Int} {t u : Tok} : (if b > a then Value.int b u else Value.int a t) = .int (if b > a then b else a) (if b > a then u else t) := by split <;> rfl
theorem minV {a b : Int} {t u : Tok} : (if b < a then Value.int b u else Value.int a t) = .int (if b < a then b else a) (if b < a then u else t) := by split <;> rfl

theorem rungs_len {start step last lo hi : Int} (hl : last ≤ 10) : (rungsOf start step last lo hi).length ≤ 11 := by
  unfold rungsOf
  rw [List.length_map, rangeInts_length]
  unfold mostOf leastOf
  have h1 : (if (hi - start).fdiv step < last then (hi - start).fdiv step else last) ≤ 10 := by split <;> omega
  have h2 : 0 ≤ (if -((start - lo).fdiv step) > 0 then -((start - lo).fdiv step) else 0) := by split <;> omega
  omega

set_option maxHeartbeats 1000000 in
theorem div_spec {a rl : Addr} {rs : List (Int × Int)} {first start step last : Int} {t1 t2 t3 t4 : Tok} {Q : Value → Shared → Prop} (B : Base w mg mb s.heap) (R : Room A 1 20) (Fn : FnAt s.heap mg "_law_by_division" 20 a)
    (hr : RunsAt s.heap rl rs) (hn : rs.length ≤ 20) (hst : 0 < step) (hst' : step ≤ 100000) (h1 : 0 ≤ start) (h1' : start ≤ 2000000) (hlast : last ≤ 10) (hlast' : -2000000 ≤ last)
    (hrs : ∀ r ∈ rs, 0 ≤ r.1 ∧ r.1 ≤ 2000000 ∧ 0 ≤ r.2 ∧ r.2 ≤ 2000000)
    (h : ∀ s' l ys, Kp s s' → s'.heap.PlainList l ys.toArray → IntsAre ys (divOf first start step last rs) → s.heap.get? l = none → Q (.ref l) s') :
    wpAny (model P w) A (call (.ref a) [.ref rl, .int first t1, .int start t2, .int step t3, .int last t4]) Q E s := by
  refine enter (binds := [(("runs" : Str), Value.ref rl), ("first", Value.int first t1), ("start", Value.int start t2), ("step", Value.int step t3), ("last", Value.int last t4)]) B R Fn (fun _ _ _ => by rfl)
    (by intro x hx; simp at hx; rcases hx with rfl | rfl | rfl | rfl | rfl <;> rfl) (fun cd h₁ F => ?_)
  have R' : Room (A.deeper (envOf "_law_by_division" (dSco (stAt 20)) s.heap.objs.size a cd)) 0 10 := (R.less (d' := 1) (u' := 13) (by omega) (by omega)).deeper _
  refine wpAny_execs_cons (wpAny_Assign_Name (wpAny_List (wpAny_items_nil ⟨Nat.zero_le _, ?_⟩)))
  have hL : s.heap.objs.size < h₁.objs.size := F.ns.lt
  refine stS (F.push _) fun h₂ F₂ hs₂ => ?_
  have hDne : h₁.objs.size ≠ s.heap.objs.size := Nat.ne_of_gt hL
  have hpl : h₂.PlainList h₁.objs.size ([] : List Value).toArray := ⟨0, hs₂.extBut _ _ hDne (Heap.get?_push_size _ rfl)⟩
  have hDf : s.heap.get? h₁.objs.size = none := noneFrom (Nat.le_of_lt hL)
  generalize h₁.objs.size = D at *
  obtain ⟨vs, hvl, hvn, hvs⟩ := hr
  have hvl₂ : h₂.IsList rl vs.toArray := hvl.at fun o e => F₂.keep _ o e
  have hrlt : rl < s.heap.objs.size := by obtain ⟨o, ho, _⟩ := hvl; exact Heap.lt_size ho
  refine wpAny_execs_cons (wpAny_For (ld F₂ (by rfl) (wpAny_pyIter_list hvl₂ ?_)))
  have hIt : s.heap.objs.size < h₂.objs.size := F₂.ns.lt
  have hDlt : D < h₂.objs.size := by obtain ⟨n, e⟩ := hpl; exact Heap.lt_size e
  generalize hItE : h₂.objs.size = It at *
  have envK : ∀ (x : Str), (dSco (stAt 20)).names.lookup x = some .local → (envOf "_law_by_division" (dSco (stAt 20)) s.heap.objs.size a cd).kindOf x = some .local := fun _ e => e
  -- what stands between the turns
  let J : Nat → Shared → Prop := fun i s' => ∃ m ys, Fr s.heap s.heap.objs.size s'.heap m ∧ m "first" = some (.int first t1) ∧ m "start" = some (.int start t2) ∧ m "step" = some (.int step t3) ∧ m "last" = some (.int last t4) ∧
    m "due" = some (.ref D) ∧ s'.heap.PlainList D (List.toArray ys) ∧ IntsAre ys (divOf first start step last (rs.take i)) ∧ ys.length ≤ 12 * i ∧ s'.os = s.os ∧ (AllBare s.gens → AllBare s'.gens)
  -- the turn behind the test
  have tail : ∀ (i : Nat) (r : Int × Int) (lt ht : Tok) (m : Str → Option Value) (ys : List Value) (s' : Shared), rs[i]? = some r → Fr s.heap s.heap.objs.size s'.heap m → m "first" = some (.int first t1) → m "start" = some (.int start t2) →
      m "step" = some (.int step t3) → m "last" = some (.int last t4) → m "due" = some (.ref D) → m "low" = some (.int r.1 lt) → m "high" = some (.int r.2 ht) → s'.heap.PlainList D (List.toArray ys) →
      IntsAre ys (divOf first start step last (rs.take i) ++ (if r.1 ≤ first ∧ first ≤ r.2 then [0] else [])) → ys.length ≤ 12 * i + 1 → s'.os = s.os → (AllBare s.gens → AllBare s'.gens) →
      s'.heap.IsListIter It rl (i + 1) → s'.heap.IsList rl vs.toArray → i < 20 →
      wpAny (model P w) (A.deeper (envOf "_law_by_division" (dSco (stAt 20)) s.heap.objs.size a cd)) (execs (divBody.drop 1) (envOf "_law_by_division" (dSco (stAt 20)) s.heap.objs.size a cd))
        (fun f s₄ => f = .next ∧ J (i + 1) s₄ ∧ s₄.heap.IsListIter It rl (i + 1) ∧ s₄.heap.IsList rl vs.toArray) (fun _ _ => False) s' := by
    intro i r lt ht m ys s' hri F m1 m2 m3 m4 m5 m6 m7 hp hi hlen hos hbr hit hl hi20
    have B' : Base w mg mb s'.heap := B.keeps F.keep
    have hs0 : step ≠ 0 := by omega
    have hsn : step.natAbs < 1073741824 := by omega
    refine wpAny_execs_cons (wpAny_Assign_Name ?_)
    refine callB2 (id := "max") B' (by decide) (by rfl) ?_
    refine wpAny_items_cons (wpAny_Constant_int (wpAny_items_cons (Ev.int (s := { s' with toks := _ }) F (n := -((start - r.1).fdiv step)) (by w_left <;> assumption) fun t5 tk5 => wpAny_items_nil ?_)))
    refine max_two_ints R'.handled fun h₆ tk₆ k₆ => ?_
    rw [maxV]
    have F₆ : Fr s.heap s.heap.objs.size h₆ m := F.keeps k₆
    refine stS (s := { s' with heap := h₆, toks := tk₆ }) F₆ fun h₇ F₇ hs₇ => ?_
    have B₇ : Base w mg mb h₇ := B.keeps F₇.keep
    refine wpAny_execs_cons (wpAny_Assign_Name ?_)
    refine callB2 (id := "min") B₇ (by decide) (by rfl) ?_
    refine wpAny_items_cons (ld F₇ m4 (wpAny_items_cons (Ev.int F₇ (n := (r.2 - start).fdiv step) (by w_left <;> assumption) fun t8 tk8 => wpAny_items_nil ?_)))
    refine min_two_ints R'.handled fun h₈ tk₈ k₈ => ?_
    rw [minV]
    have F₈ := F₇.keeps k₈
    refine stS (s := { s' with heap := h₈, toks := tk₈ }) F₈ fun h₉ F₉ hs₉ => ?_
    have B₉ : Base w mg mb h₉ := B.keeps F₉.keep
    have k₉ : ∀ b o, b ≠ s.heap.objs.size → s'.heap.get? b = some o → h₉.get? b = some o := fun b o hb e => hs₉.extBut b o hb (k₈ b o (hs₇.extBut b o hb (k₆ b o e)))
    have hp₉ : h₉.PlainList D ys.toArray := hp.at fun o e => k₉ _ o hDne e
    have hit₉ : h₉.IsListIter It rl (i + 1) := hit.at fun o e => k₉ _ o (Nat.ne_of_gt hIt) e
    have hl₉ : h₉.IsList rl vs.toArray := hl.at fun o e => k₉ _ o (Nat.ne_of_lt hrlt) e
    refine wpAny_execs_cons ?_
    refine extendS F₉ m5 hp₉ (by omega) ?_ (by rfl) (by rfl) (by rfl)
    have hlo : 0 ≤ leastOf start step r.1 := by unfold leastOf; split <;> omega
    have hr4 := hrs r (List.mem_of_getElem? hri)
    have hq1 : -4000000 ≤ (start - r.1).fdiv step := by
      rw [Int.fdiv_eq_ediv_of_nonneg _ (by omega)]
      exact Int.le_ediv_of_mul_le hst (by have := Int.mul_le_mul_of_nonneg_left (show (1 : Int) ≤ step by omega) (show (0 : Int) ≤ 4000000 by decide); omega)
    have hlo' : leastOf start step r.1 ≤ 4000000 := by unfold leastOf; split <;> omega
    have hmo : mostOf start step last r.2 ≤ 10 := by unfold mostOf; split <;> omega
    have hq2 : -4000000 ≤ (r.2 - start).fdiv step := by
      rw [Int.fdiv_eq_ediv_of_nonneg _ (by omega)]
      exact Int.le_ediv_of_mul_le hst (by have := Int.mul_le_mul_of_nonneg_left (show (1 : Int) ≤ step by omega) (show (0 : Int) ≤ 4000000 by decide); omega)
    have hmo' : -4000000 ≤ mostOf start step last r.2 := by unfold mostOf; split <;> omega
    refine listcomp (cl := []) (by rfl) (by decide) (by rfl) (by decide) (by rfl) ?_
    refine rangeE (a := leastOf start step r.1) (b := mostOf start step last r.2 + 1) B₉ F₉ (by w_left) (by w_left) (fun ra t u v tk hra => ?_) (by rfl)
    refine wpAny_pyIter_range (a := leastOf start step r.1) (b := mostOf start step last r.2 + 1) (c := 1) (t := t) (u := u) (v := v) (by subst hra; exact Heap.get?_push_size _ rfl) (small_one (by omega) (by omega) (by omega) (by omega)) ?_
    have hsz : Builtin.Range.rangeSize (leastOf start step r.1) (mostOf start step last r.2 + 1) 1 = ((mostOf start step last r.2 + 1 - leastOf start step r.1).toNat : Int) := rangeSize_nat _ _
    have hn11 : (mostOf start step last r.2 + 1 - leastOf start step r.1).toNat ≤ 11 := by omega
    rw [hsz]
    generalize hnn : (mostOf start step last r.2 + 1 - leastOf start step r.1).toNat = n at *
    dsimp only
    generalize hG : (h₉.push { cls := .type "range", data := .fields #[.int (leastOf start step r.1) t, .int (mostOf start step last r.2 + 1) u, .int 1 v] }) = G
    have kG : ∀ b o, h₉.get? b = some o → G.get? b = some o := fun b o e => hG ▸ Heap.get?_push_of_some _ e
    have kG2 : ∀ b o, h₉.get? b = some o → (G.push { cls := .type "range_iterator", data := .fields #[rawInt (leastOf start step r.1), rawInt (n : Int), rawInt 1] }).get? b = some o := fun b o e => Heap.get?_push_of_some _ (kG b o e)
    refine ⟨G.objs.size, [G.objs.size], [G.objs.size], n, _, _, rfl, Walks.range R'.handled G.objs.size (leastOf start step r.1) 1 n, by show _ ≤ 2 ^ 24; omega, ?_, ?_,
      fun i zs _ => IntsAre zs ((rangeInts (leastOf start step r.1) 1 i).map fun x => 1 + x), IntsAre.nil, fun _ _ _ _ x _ => x, ?_, ?_⟩
    · show (G.push _).get? _ = _
      rw [Heap.get?_push_size _ rfl]
      simp [rawInt]
    · intro b hb
      simp only [List.mem_singleton] at hb
      subst hb
      rw [Heap.size_push]
      exact Nat.lt_succ_self _
    · intro i' v' zs s₃ m₃ hPv hlz hn₃ hm₃ hz hk
      obtain ⟨tv, rfl⟩ := hPv
      refine wpAny_pure ⟨Kp.refl _, ?_⟩
      rw [if_pos rfl]
      refine wpAny_BinOp (wpAny_Constant_int (ldE hn₃ hm₃ (add_int ⟨⟨fun _ _ e => e, rfl, id⟩, ?_⟩)))
      show IntsAre _ (List.map _ (rangeInts _ 1 (i' + 1)))
      rw [FinIter.rangeInts_succ, List.map_append]
      exact hz.append (.cons _ _ .nil)
    · intro s₄ zs hpz hz K
      have hzl : zs.length = n := by rw [hz.length, List.length_map, rangeInts_length]
      have k4 : ∀ b o, b ≠ G.objs.size → h₉.get? b = some o → s₄.heap.get? b = some o := fun b o hb e => K.keep b o (by simpa using hb) (kG2 b o e)
      have ltG : ∀ {b : Addr} {o : Obj}, h₉.get? b = some o → b ≠ G.objs.size := fun e => Nat.ne_of_lt (Heap.lt_size (kG _ _ e))
      have k5 : ∀ b o, h₉.get? b = some o → s₄.heap.get? b = some o := fun b o e => k4 b o (ltG e) e
      have hp₄ : s₄.heap.PlainList D ys.toArray := hp₉.at fun o e => k5 _ o e
      refine ⟨_, zs, rfl, hpz, by omega, hp₄, fun h₅ hp₅ hs₅ => wpAny_execs_nil ⟨rfl, ?_, ?_, ?_⟩⟩
      · refine ⟨_, ys ++ zs, (F₉.keeps k5).change hs₅ hDne hDf, m1, m2, m3, m4, m5, hp₅, ?_, ?_, K.os.trans hos, fun hb => K.bare (hbr hb)⟩
        · rw [List.take_add_one, hri]
          show IntsAre _ (List.flatMap _ (rs.take i ++ [r]))
          rw [List.flatMap_append, List.flatMap_singleton]
          unfold divOne
          rw [← List.append_assoc]
          refine hi.append ?_
          unfold rungsOf
          rw [hnn]
          exact hz
        · rw [List.length_append]; omega
      · exact (hit₉.at fun o e => k5 _ o e).at fun o e => hs₅.extBut _ o (Nat.ne_of_gt hDlt) e
      · exact (hl₉.at fun o e => k5 _ o e).at fun o e => hs₅.extBut _ o (fun h => by subst h; exact absurd hrlt (Nat.not_lt.mpr (by
          cases hq : s.heap.get? rl with
          | none => obtain ⟨o, ho, _⟩ := hvl; rw [ho] at hq; cases hq
          | some o => rw [hDf] at hq; cases hq))) e
  have J0 : J 0 { s with heap := h₂.push { cls := .type "list_iterator", data := .fields #[.ref rl, .int 0 0] }, toks := 0 } :=
    ⟨_, [], F₂.push _, by rfl, by rfl, by rfl, by rfl, by rfl, hpl.at fun o e => Heap.get?_push_of_some _ e, .nil, Nat.le_refl _, rfl, id⟩
  refine forLoop_list (It := It) (ax := rl) (items := vs.toArray) J R'.handled (Nat.ne_of_lt (Nat.lt_trans hrlt hIt)) ?_ ?_ ?_ ?_ ?_ ?_
  · rintro i s' h' ⟨m, ys, f1, f2, f3, f4, f5, f6, f7, f8, f9, f10, f11⟩ hs'
    exact ⟨m, ys, f1.sameNew hIt hs', f2, f3, f4, f5, f6, f7.extBut hs'.extBut (Nat.ne_of_lt hDlt), f8, f9, f10, f11⟩
  · rintro i v s₁ hv ⟨m, ys, f1, f2, f3, f4, f5, f6, f7, f8, f9, f10, f11⟩ hit₁ hl₁
    obtain ⟨ai, tl, th, r, rfl, hri, hai⟩ := hvs i v (by simpa using hv)
    have hi20 : i < 20 := by
      have : i < rs.length := by
        rcases Nat.lt_or_ge i rs.length with h | h
        · exact h
        · rw [List.getElem?_eq_none h] at hri; cases hri
      omega
    refine notOwned hit₁ ?_
    rw [assign_Tuple]
    refine wpAny_bind (wpAny_standAt ?_)
    have hai₁ : s₁.heap.IsList ai #[.int r.1 tl, .int r.2 th] := hai.at fun o e => f1.keep _ o e
    refine wpAny_bind (wpAny_holding (unpack_two R'.handled hai₁ fun h₃ he₃ => ?_))
    have old : ∀ b o, s₁.heap.get? b = some o → h₃.get? b = some o := fun b o e => he₃ b o (Nat.ne_of_lt (Heap.lt_size e)) e
    refine assignInOrder_cons (wpAny_assign_Name (stS (f1.keeps old) fun h₄ F₄ hs₄ => ?_))
    refine assignInOrder_cons (wpAny_assign_Name (stS F₄ fun h₅ F₅ hs₅ => ?_))
    refine assignInOrder_nil ?_
    have k5 : ∀ b o, b ≠ s.heap.objs.size → s₁.heap.get? b = some o → h₅.get? b = some o := fun b o hb e => hs₅.extBut b o hb (hs₄.extBut b o hb (old b o e))
    have hp₅ : h₅.PlainList D ys.toArray := f7.at fun o e => k5 _ o hDne e
    have hit₅ : h₅.IsListIter It rl (i + 1) := hit₁.at fun o e => k5 _ o (Nat.ne_of_gt hIt) e
    have hl₅ : h₅.IsList rl vs.toArray := hl₁.at fun o e => k5 _ o (Nat.ne_of_lt hrlt) e
    refine wpAny_execs_cons (wpAny_If (isTrue_chain (ld F₅ (by rfl) (test_link (ld F₅ f2 (le_int (wpAny_truthy_bool ?_)))))))
    have noHit : ∀ tk, ¬ (r.1 ≤ first ∧ first ≤ r.2) → wpAny (model P w) (A.deeper (envOf "_law_by_division" (dSco (stAt 20)) s.heap.objs.size a cd)) (execs (divBody.drop 1) (envOf "_law_by_division" (dSco (stAt 20)) s.heap.objs.size a cd))
        (fun f s₄ => f = .next ∧ J (i + 1) s₄ ∧ s₄.heap.IsListIter It rl (i + 1) ∧ s₄.heap.IsList rl vs.toArray) (fun _ _ => False) { s₁ with heap := h₅, toks := tk } := fun tk hc =>
      tail i r tl th _ ys _ hri F₅ f2 f3 f4 f5 f6 (by rfl) (by rfl) hp₅ (by rw [if_neg hc, List.append_nil]; exact f8) (by omega) f10 f11 hit₅ hl₅ hi20
    cases c1' : decide (r.1 ≤ first) with
    | false =>
      have c1 := of_decide_eq_false c1'
      rw [if_neg Bool.false_ne_true, if_neg Bool.false_ne_true]
      exact wpAny_execs_nil (wpAny_mono (noHit _ fun x => c1 x.1) (fun f s₄ x => by obtain ⟨rfl, x⟩ := x; exact x) fun _ _ x => x)
    | true =>
    have c1 := of_decide_eq_true c1'
    rw [if_pos rfl]
    refine test_last (ld F₅ (by rfl) (le_int (wpAny_truthy_bool ?_)))
    cases c2' : decide (first ≤ r.2) with
    | false =>
      have c2 := of_decide_eq_false c2'
      rw [if_neg Bool.false_ne_true]
      exact wpAny_execs_nil (wpAny_mono (noHit _ fun x => c2 x.2) (fun f s₄ x => by obtain ⟨rfl, x⟩ := x; exact x) fun _ _ x => x)
    | true =>
    have c2 := of_decide_eq_true c2'
    rw [if_pos rfl]
    refine wpAny_execs_cons (appendS F₅ f6 hp₅ (by omega) (fun hq => wpAny_Constant_int (hq _)) (fun h₆ tk₆ hp₆ hs₆ => ?_) (by rfl) (by rfl) (by rfl))
    refine wpAny_execs_nil (wpAny_mono (tail i r tl th _ (ys ++ [.int 0 _]) _ hri (F₅.change hs₆ hDne hDf) f2 f3 f4 f5 f6 (by rfl) (by rfl) hp₆ (by rw [if_pos ⟨c1, c2⟩]; exact f8.append (.cons _ _ .nil)) (by simp; omega) f10 f11
      (hit₅.extBut hs₆.extBut (Nat.ne_of_gt hDlt)) (hl₅.extBut hs₆.extBut ?_) hi20) (fun f s₄ x => by obtain ⟨rfl, x⟩ := x; exact x) fun _ _ x => x)
    intro e
    subst e
    obtain ⟨o, ho, _⟩ := hvl
    rw [hDf] at ho
    cases ho
  · rintro s' h' ⟨m, ys, f1, f2, f3, f4, f5, f6, f7, f8, f9, f10, f11⟩ he
    have F' : Fr s.heap s.heap.objs.size h' m := ⟨f1.ns.at' fun o e => he _ o (Nat.ne_of_lt hIt) e, fun b o e => he b o (Nat.ne_of_lt (Nat.lt_trans (Heap.lt_size e) hIt)) (f1.keep b o e), f1.above⟩
    refine wpAny_execs_cons (wpAny_Return_some (ld F' f6 ?_))
    refine h _ _ ys ⟨F'.keep, f10, f11⟩ (f7.extBut he (Nat.ne_of_lt hDlt)) ?_ hDf
    rw [List.size_toArray, hvn, List.take_length] at f8
    exact f8
  · exact J0
  · exact ⟨_, by rw [← hItE]; exact Heap.get?_push_size _ rfl, rfl, rfl⟩
  · exact hvl₂.at fun o e => Heap.get?_push_of_some _ e
end
end Mine
end

section
open PySem PySem.W PyProof.Rows
set_option maxRecDepth 100000
namespace Mine

def planeRuns : List (Int × Int) := (List.range 17).map fun p : Nat => (65536 * (p : Int) + 65534, 65536 * (p : Int) + 65535)
def allRuns : List (List (Int × Int)) :=
  [[(173, 173), (847, 847), (6150, 6150), (6155, 6157), (8203, 8205), (8288, 8288), (65024, 65039), (65279, 65279)], [(32, 32)], (64976, 65007) :: planeRuns, [(65529, 65533)], [(12272, 12283)],
   [(832, 833), (8206, 8207), (8234, 8238), (8298, 8303)], [(917505, 917505), (917536, 917631)]]

def TablesAt (h : Heap) (T : Addr) (tabs : List (List (Int × Int))) : Prop :=
  ∃ vs : List Value, h.IsList T vs.toArray ∧ vs.length = tabs.length ∧ ∀ (i : Nat) v, vs[i]? = some v → ∃ a rs, v = .ref a ∧ tabs[i]? = some rs ∧ RunsAt h a rs
theorem TablesAt.keeps {h h' : Heap} {T tabs} (x : TablesAt h T tabs) (hk : ∀ b o, h.get? b = some o → h'.get? b = some o) : TablesAt h' T tabs :=
  let ⟨vs, a, b, c⟩ := x
  ⟨vs, a.at fun o e => hk _ o e, b, fun i v e => let ⟨a, rs, e1, e2, e3⟩ := c i v e; ⟨a, rs, e1, e2, e3.keeps hk⟩⟩

def pairOf : Expr → Option (Int × Int)
  | .List [.Constant (.int a) _ _, .Constant (.int b) _ _] _ => some (a, b)
  | _ => none
def pairsOf : List Expr → Option (List (Int × Int))
  | [] => some []
  | e :: es => match pairOf e, pairsOf es with
    | some p, some ps => some (p :: ps)
    | _, _ => none

section
variable {w : World} {A : Around} {E : Value → Shared → Prop} {s : Shared} {mg mb : Str → Option Value} {env : Env}

theorem addL {l b : Addr} {vs ws : List Value} {Q : Value → Shared → Prop} (hl : s.heap.IsList l vs.toArray) (hb : s.heap.IsList b ws.toArray) (hsz : vs.length + ws.length ≤ 4096)
    (h : Q (.ref s.heap.objs.size) { s with heap := s.heap.push { cls := .type "list", data := .seq (vs ++ ws).toArray } }) :
    wpAny (model P w) A (binaryOp .Add (.ref l) (.ref b)) Q E s := by
  obtain ⟨⟨cls, dd, data, sl⟩, ho, hc, n, hd⟩ := id hl
  obtain ⟨⟨cls2, dd2, data2, sl2⟩, ho2, hc2, n2, hd2⟩ := id hb
  simp only at hc hd hc2 hd2
  subst hc hd hc2 hd2
  have e : vs.toArray ++ ws.toArray = (vs ++ ws).toArray := by simp
  refine concat_meets ⟨_, ho, rfl⟩ ⟨_, ho2, rfl⟩ noFill_list_add seq_list_add PySem.F.slot_list_add PySem.F.entry_list_add (PySem.F.args_list_add_2 _ _)
    (list_addW l b vs.toArray ws.toArray n n2 dd dd2 sl sl2 (by simp only [List.size_toArray]; show _ ≤ 2 ^ 24; omega)) ⟨ho, ho2, ?_⟩
  rw [e]
  exact h

/-- the items of a display of pairs -/
theorem pairs_items {pos : Pos} : ∀ (es : List Expr) (rs : List (Int × Int)) (s : Shared) (Q : List Value → Shared → Prop), pairsOf es = some rs →
    (∀ vs s', Kp s s' → vs.length = rs.length → (∀ (i : Nat) v, vs[i]? = some v → ∃ a t u r, v = .ref a ∧ rs[i]? = some r ∧ s'.heap.IsList a #[.int r.1 t, .int r.2 u]) → Q vs s') →
    wpAny (model P w) A (spliced (backTo pos (starEach es env))) Q E s
  | [], rs, s, Q, he, h => by
    cases he
    exact wpAny_items_nil (h [] s (Kp.refl s) rfl fun i v e => by simp at e)
  | e :: es, rs, s, Q, he, h => by
    unfold pairsOf at he
    split at he
    · rename_i p ps hp hps
      cases he
      unfold pairOf at hp
      split at hp
      · cases hp
        refine wpAny_items_cons (wpAny_List (wpAny_items_cons (wpAny_Constant_int (wpAny_items_cons (wpAny_Constant_int (wpAny_items_nil ⟨show 2 ≤ sizeLine by decide, ?_⟩)))))) 
        refine pairs_items es ps _ _ hps fun vs s' K hl hv => ?_
        refine h _ s' ⟨fun b o e => K.keep b o (Heap.get?_push_of_some _ e), K.os, K.bare⟩ (by simp [hl]) fun i v e => ?_
        cases i with
        | zero =>
          simp only [List.getElem?_cons_zero, Option.some.injEq] at e
          subst e
          exact ⟨_, _, _, _, rfl, rfl, _, K.keep _ _ (Heap.get?_push_size _ rfl), rfl, 0, rfl⟩
        | succ i => exact hv i v (by simpa using e)
      · cases hp
    · cases he

theorem pairs_list {pos : Pos} {es : List Expr} {rs : List (Int × Int)} {Q : Value → Shared → Prop} (he : pairsOf es = some rs) (hn : rs.length ≤ 4096)
    (h : ∀ s' l, Kp s s' → RunsAt s'.heap l rs → Q (.ref l) s') : wpAny (model P w) A (eval (.List es pos) env) Q E s := by
  refine wpAny_List (pairs_items es rs s _ he fun vs s' K hl hv => ⟨by show _ ≤ 2 ^ 24; omega, ?_⟩)
  refine h _ _ ⟨fun b o e => Heap.get?_push_of_some _ (K.keep b o e), K.os, K.bare⟩ ⟨vs, ⟨_, Heap.get?_push_size _ rfl, rfl, 0, rfl⟩, hl, fun i v e => ?_⟩
  obtain ⟨a, t, u, r, e1, e2, e3⟩ := hv i v e
  exact ⟨a, t, u, r, e1, e2, e3.push _⟩

theorem range1E {p pos : Pos} {name : Str} {scope : Scope} {L fa : Addr} {cd : Value} {e1 : Expr} {n : Int} {Q : Value → Shared → Prop} {h₀ : Heap} {m : Str → Option Value} (B : Base w mg mb s.heap) (F : Fr h₀ L s.heap m)
    (x1 : Ev scope m e1 (.i n)) (h1 : -(2 ^ 62) ≤ n) (h2 : n < 2 ^ 62)
    (h : ∀ It tk h', (∀ b o, s.heap.get? b = some o → h'.get? b = some o) → h'.objs.size = It + 1 → s.heap.objs.size ≤ It → IsRangeIter h' It (0 + ((0 : Nat) : Int) * 1) ((n.toNat : Int) - ((0 : Nat) : Int)) 1 → Q (.ref It) { s with heap := h', toks := tk })
    (he : starEach [e1] (envOf name scope L fa cd) = [(false, eval e1 (envOf name scope L fa cd))] := by rfl)
    (hk : scope.kind = .function := by rfl) (hx : (envOf name scope L fa cd).kindOf "range" = some .globalImplicit := by rfl) :
    wpAny (model P w) A (eval (.Call (.Name "range" p) [e1] [] pos) (envOf name scope L fa cd)) (fun xv s₁ => wpAny (model P w) A (pyIter xv) Q E s₁) E s := by
  refine wpAny_Call_NameR (ldb B (by decide) (v := .type "range") (by rfl) ?_ hk hx)
  rw [show backTo pos (starEach [e1] (envOf name scope L fa cd)) = [(false, eval e1 (envOf name scope L fa cd))] from by rw [he]; rfl]
  refine callWith_excType rfl (Calls.evalArgs_plain (Calls.spliced_cons (Ev.int F x1 (fun t1 tk1 => Calls.spliced_nil ?_) hk)))
  refine call_range_1 ?_
  refine wpAny_pyIter_range (a := 0) (b := n) (c := 1) (Heap.get?_push_size _ rfl) (small_one (by decide) (by decide) h1 h2) ?_
  refine h _ _ _ (fun b o e => Heap.get?_push_of_some _ (Heap.get?_push_of_some _ e)) (by rw [Heap.size_push]) (by rw [Heap.size_push]; exact Nat.le_succ _) ?_
  have e : Builtin.Range.rangeSize 0 n 1 = (n.toNat : Int) := by rw [rangeSize_nat]; simp
  rw [e]
  refine (Heap.get?_push_size _ rfl).trans ?_
  simp [rawInt]

end
end Mine
end

section
open PySem PySem.W PyProof.Rows
set_option maxRecDepth 100000
namespace Mine
section
variable {w : World} {A : Around} {E : Value → Shared → Prop} {s : Shared} {mg mb : Str → Option Value} {env : Env}
set_option maxHeartbeats 1000000 in
theorem runs_spec {a : Addr} {Q : Value → Shared → Prop} (B : Base w mg mb s.heap) (R : Room A 1 20) (Fn : FnAt s.heap mg "_law_runs" 17 a)
    (h : ∀ s' T, Kp s s' → TablesAt s'.heap T allRuns → Q (.ref T) s') : wpAny (model P w) A (call (.ref a) []) Q E s := by
  refine enter (binds := []) B R Fn (fun _ _ _ => by rfl) (by intro x hx; cases hx) (fun cd h₁ F => ?_)
  have R' : Room (A.deeper (envOf "_law_runs" (dSco (stAt 17)) s.heap.objs.size a cd)) 0 10 := (R.less (d' := 1) (u' := 13) (by omega) (by omega)).deeper _
  refine wpAny_execs_cons ?_
  refine wpAny_Return_some ?_
  refine wpAny_List ?_
  refine wpAny_items_cons ?_
  refine pairs_list (rs := [(173, 173), (847, 847), (6150, 6150), (6155, 6157), (8203, 8205), (8288, 8288), (65024, 65039), (65279, 65279)]) ?_ ?_ ?_
  · kernel_rfl
  · decide
  intro s₁ l₁ K₁ r₁
  refine wpAny_items_cons ?_
  refine pairs_list (rs := [(32, 32)]) ?_ ?_ ?_
  · kernel_rfl
  · decide
  intro s₂ l₂ K₂ r₂
  refine wpAny_items_cons (wpAny_BinOp ?_)
  refine pairs_list (rs := [(64976, 65007)]) ?_ ?_ ?_
  · kernel_rfl
  · decide
  intro s₃ l₃ K₃ r₃
  have F₃ : Fr s.heap s.heap.objs.size s₃.heap _ := ((F.keeps K₁.keep).keeps K₂.keep).keeps K₃.keep
  have B₃ : Base w mg mb s₃.heap := B.keeps F₃.keep
  refine listcomp (cl := []) (by rfl) (by decide) (by rfl) (by decide) (by rfl) ?_
  refine range1E (n := 17) B₃ F₃ EvR.cint (by decide) (by decide) fun It tk h₄ k₄ hsz hIt hri => ?_
  refine ⟨It, [It], [It], 17, _, _, rfl, Walks.range R'.handled It 0 1 17, by show _ ≤ 2 ^ 24; omega, hri, ?_,
    fun i ys h => ys.length = i ∧ ∀ (j : Nat) v, ys[j]? = some v → ∃ a t u, v = .ref a ∧ h₄.objs.size + 2 ≤ a ∧ h.IsList a #[.int (65536 * (j : Int) + 65534) t, .int (65536 * (j : Int) + 65535) u], ⟨rfl, fun j v e => by simp at e⟩, ?_, ?_, ?_⟩
  · intro b hb
    simp only [List.mem_singleton] at hb
    show b < h₄.objs.size
    rw [hb, hsz]; exact Nat.lt_succ_self _
  · rintro i ys h h' ⟨e1, e2⟩ hk
    refine ⟨e1, fun j v e => ?_⟩
    obtain ⟨a, t, u, x1, x2, x3⟩ := e2 j v e
    refine ⟨a, t, u, x1, x2, x3.at fun o e => hk a o (.inr x2) (fun hm => ?_) e⟩
    simp only [List.mem_singleton] at hm
    subst hm
    have := ltA (x2)
    omega
  · rintro i v ys s₅ m₅ ⟨tv, rfl⟩ hlen hn hm ⟨e1, e2⟩ hk
    rw [show (0 + (i : Int) * 1) = (i : Int) by omega] at hm
    refine wpAny_pure ⟨Kp.refl _, ?_⟩
    rw [if_pos rfl]
    refine wpAny_List (wpAny_items_cons (wpAny_BinOp (wpAny_BinOp (wpAny_Constant_int (ldE hn hm (mul_int (wpAny_Constant_int (add_int ?_)) ?_))))))
    · refine wpAny_items_cons (wpAny_BinOp (wpAny_BinOp (wpAny_Constant_int (ldE hn hm (mul_int (wpAny_Constant_int (add_int (wpAny_items_nil ⟨show 2 ≤ sizeLine by decide, ?_⟩))) ?_)))))
      · have hsz5 : h₄.objs.size + 1 < s₅.heap.objs.size := hn.lt
        refine ⟨⟨fun b o e => Heap.get?_push_of_some _ e, rfl, id⟩, by simp [e1], fun j v e => ?_⟩
        by_cases hj : j < ys.length
        · rw [List.getElem?_append_left hj] at e
          obtain ⟨a, t, u, x1, x2, x3⟩ := e2 j v e
          exact ⟨a, t, u, x1, x2, x3.push _⟩
        · rw [List.getElem?_append_right (by omega)] at e
          have hj0 : j - ys.length = 0 := by
            rcases Nat.eq_zero_or_pos (j - ys.length) with h | h
            · exact h
            · rw [List.getElem?_eq_none (by simp; omega)] at e; cases e
          rw [hj0] at e
          simp only [List.getElem?_cons_zero, Option.some.injEq] at e
          have hji : j = i := by omega
          subst e hji
          exact ⟨_, _, _, rfl, by show h₄.objs.size + 2 ≤ s₅.heap.objs.size; omega, _, Heap.get?_push_size _ rfl, rfl, 0, rfl⟩
      · exact IntMulOk.of_left (by decide +kernel)
    · exact IntMulOk.of_left (by decide +kernel)
  · rintro s₅ ys hpl ⟨e1, e2⟩ K
    obtain ⟨v3, a3, b3, c3⟩ := r₃
    have k5 : ∀ b o, s₃.heap.get? b = some o → s₅.heap.get? b = some o := fun b o e => K.keep b o (by
      simp only [List.mem_singleton]
      exact Nat.ne_of_lt (Nat.lt_of_lt_of_le (Heap.lt_size e) hIt)) (k₄ b o e)
    refine addL (a3.at fun o e => k5 _ o e) hpl.isList (by rw [b3, e1]; decide) ?_
    have K₅ : Kp s₃ { s₅ with heap := s₅.heap.push { cls := .type "list", data := .seq (v3 ++ ys).toArray } } := ⟨fun b o e => Heap.get?_push_of_some _ (k5 b o e), K.os, K.bare⟩
    have r₅ : RunsAt (s₅.heap.push { cls := .type "list", data := .seq (v3 ++ ys).toArray }) s₅.heap.objs.size ((64976, 65007) :: planeRuns) := by
      refine ⟨v3 ++ ys, ⟨_, Heap.get?_push_size _ rfl, rfl, 0, rfl⟩, by rw [List.length_append, b3, e1]; rfl, fun i v e => ?_⟩
      have hl3 : v3.length = 1 := b3
      by_cases hi : i < v3.length
      · rw [List.getElem?_append_left hi] at e
        obtain ⟨a, t, u, r, x1, x2, x3⟩ := c3 i v e
        have hi0 : i = 0 := by omega
        subst hi0
        exact ⟨a, t, u, r, x1, x2, x3.at fun o e => Heap.get?_push_of_some _ (k5 _ o e)⟩
      · rw [List.getElem?_append_right (by omega)] at e
        obtain ⟨a, t, u, x1, _, x3⟩ := e2 _ v e
        have hj : i - v3.length < 17 := by
          rcases Nat.lt_or_ge (i - v3.length) ys.length with h | h
          · omega
          · rw [List.getElem?_eq_none h] at e; cases e
        refine ⟨a, t, u, (65536 * ((i - v3.length : Nat) : Int) + 65534, 65536 * ((i - v3.length : Nat) : Int) + 65535), x1, ?_, x3.push _⟩
        have hii : i = (i - v3.length) + 1 := by omega
        generalize i - v3.length = q at *
        subst hii
        rw [List.getElem?_cons_succ]
        unfold planeRuns
        rw [List.getElem?_map, List.getElem?_range hj]
        rfl
    generalize hs6 : ({ s₅ with heap := s₅.heap.push { cls := .type "list", data := .seq (v3 ++ ys).toArray } } : Shared) = s₆ at K₅
    have r₆ : RunsAt s₆.heap s₅.heap.objs.size ((64976, 65007) :: planeRuns) := by rw [← hs6]; exact r₅
    refine wpAny_items_cons ?_
    refine pairs_list (rs := [(65529, 65533)]) ?_ ?_ ?_
    · kernel_rfl
    · decide
    intro s₇ l₇ K₇ r₇
    refine wpAny_items_cons ?_
    refine pairs_list (rs := [(12272, 12283)]) ?_ ?_ ?_
    · kernel_rfl
    · decide
    intro s₈ l₈ K₈ r₈
    refine wpAny_items_cons ?_
    refine pairs_list (rs := [(832, 833), (8206, 8207), (8234, 8238), (8298, 8303)]) ?_ ?_ ?_
    · kernel_rfl
    · decide
    intro s₉ l₉ K₉ r₉
    refine wpAny_items_cons ?_
    refine pairs_list (rs := [(917505, 917505), (917536, 917631)]) ?_ ?_ ?_
    · kernel_rfl
    · decide
    intro sA lA KA rA
    refine wpAny_items_nil ⟨show 7 ≤ sizeLine by decide, ?_⟩
    have q9 := KA
    have q8 := K₉.trans q9
    have q7 := K₈.trans q8
    have q6 := K₇.trans q7
    have q3 := K₅.trans q6
    have q2 := K₃.trans q3
    have q1 := K₂.trans q2
    have q0 := K₁.trans q1
    have up : ∀ (b : Addr) (o : Obj), sA.heap.get? b = some o → (sA.heap.push { cls := .type "list", data := .seq [Value.ref l₁, .ref l₂, .ref s₅.heap.objs.size, .ref l₇, .ref l₈, .ref l₉, .ref lA].toArray }).get? b = some o := fun b o e => Heap.get?_push_of_some _ e
    refine h _ _ ⟨fun b o e => up b o (q0.keep b o (F.keep b o e)), q0.os, q0.bare⟩ ⟨_, ⟨_, Heap.get?_push_size _ rfl, rfl, 0, rfl⟩, rfl, fun i v e => ?_⟩
    match i, e with
    | 0, e => cases e; exact ⟨_, _, rfl, rfl, (r₁.keeps q1.keep).keeps up⟩
    | 1, e => cases e; exact ⟨_, _, rfl, rfl, (r₂.keeps q2.keep).keeps up⟩
    | 2, e => cases e; exact ⟨_, _, rfl, rfl, (r₆.keeps q6.keep).keeps up⟩
    | 3, e => cases e; exact ⟨_, _, rfl, rfl, (r₇.keeps q7.keep).keeps up⟩
    | 4, e => cases e; exact ⟨_, _, rfl, rfl, (r₈.keeps q8.keep).keeps up⟩
    | 5, e => cases e; exact ⟨_, _, rfl, rfl, (r₉.keeps q9.keep).keeps up⟩
    | 6, e => cases e; exact ⟨_, _, rfl, rfl, rA.keeps up⟩
    | n + 7, e => simp at e
end
end Mine
end

section
open PySem PySem.W PyProof.Rows
set_option maxRecDepth 100000
namespace Mine

/-- what a loop's code does with an exception on its way out -/
abbrev loopH (env : Env) : Value → Sem Fin := fun e => (do noteFrame e env; theTreesLotGoes e : Sem Unit).wrap (fun _ => .raise e) .raise id id
/-- what the statement that runs a loop does with it -/
abbrev ownH (env : Env) (r : Result) : Sem Flow := (match r with | .ok f => (.pure f : Sem Flow) | .error e => .raise e).onRaise fun (x : Value) => do
  if (← field x 1) == Value.none then unsupported "frame.own-activation:exception-without-traceback"
  setFlight x env.frame

section
variable {w : World} {A : Around} {R : GenEnd} {Y : Protocol} {n : Nat} {s₀ : Shared} {c : Code} {fs : List Frame} {s : Shared} {env : Env}
  {K : Flow → Sem Fin} {H : Value → Sem Fin} {gd : Bool → Bool} {lv : List Value → List Value}

theorem seg_For {target iter : Expr} {body orelse : List Stmt} {pos : Pos}
    (h : wpAny (model P w) (A.over c fs) (eval iter env) (fun x s₁ => wpAny (model P w) (A.over c fs) (pyIter x) (fun it s₂ => ∀ p, Seg (model P w) A R Y n s₀ (.forLoop target it body orelse env) ((model P w).den (.forLoop target it body orelse env))
      (.ret (fun r => (ownH env r).wrap K H gd lv) none (gd false) (lv []) c p [] :: fs) s₂) (fun x s' => Seg (model P w) A R Y n s₀ c (H x) fs s') s₁) (fun x s' => Seg (model P w) A R Y n s₀ c (H x) fs s') s)
    (hs : ∀ x, foldedSetIterable iter env x = pure x := by intro _; rfl) :
    Seg (model P w) A R Y n s₀ c ((exec (.For target iter body orelse pos) env).wrap K H gd lv) fs s := by
  rw [exec_For]
  refine seg_bind_wrap (wpAny_standAt (seg_bind_wrap (wpAny_mono h (fun x s₁ h₁ => ?_) fun _ _ e => e)))
  refine seg_bind_wrap (wpAny_of_eq (hs x) ?_)
  refine seg_bind_wrap (wpAny_standAt (seg_bind_wrap (wpAny_holding (wpAny_mono h₁ (fun it s₂ h₂ => ?_) fun _ _ e => e))))
  exact seg_call h₂

theorem seg_forLoop {target : Expr} {it : Value} {body : List Stmt}
    (h : wpAny (model P w) (A.over (.forLoop target it body [] env) fs) (pyNext it) (fun r s₁ => match r with
      | none => Seg (model P w) A R Y n s₀ (.block [] env) (.pure (.done .next)) fs s₁
      | some v => wpAny (model P w) (A.over (.forLoop target it body [] env) fs) (letOwnedTupleGo target it v) (fun _ s₂ => wpAny (model P w) (A.over (.forLoop target it body [] env) fs) (assign target env v) (fun _ s₃ =>
          Seg (model P w) A R Y n s₀ (.forLoop target it body [] env) ((execs body env).wrap (fun f => match f with
            | .next | .cont => .pure (.again (.forLoop target it body [] env))
            | .brk => .pure (.done .next)
            | .ret v => .pure (.done (.ret v))) (loopH env) id id) fs s₃) (fun x s' => Seg (model P w) A R Y n s₀ (.forLoop target it body [] env) (loopH env x) fs s') s₂)
          (fun x s' => Seg (model P w) A R Y n s₀ (.forLoop target it body [] env) (loopH env x) fs s') s₁)
      (fun x s' => Seg (model P w) A R Y n s₀ (.forLoop target it body [] env) (loopH env x) fs s') s) :
    Seg (model P w) A R Y n s₀ (.forLoop target it body [] env) ((model P w).den (.forLoop target it body [] env)) fs s := by
  show Seg _ A R Y n s₀ _ ((forTurn target it body [] env).onRaise (fun x => do noteFrame x env; theTreesLotGoes x)) fs s
  have hH : (fun e => ((do noteFrame e env; theTreesLotGoes e : Sem Unit).bind fun _ => (.raise e : Sem Fin))) = loopH env := funext fun e => Sem.bind_eq_wrap _ _
  unfold forTurn
  rw [Sem.onRaise_eq_wrap, hH]
  refine seg_bind_wrap (wpAny_standAt (seg_bind_wrap (wpAny_onRaise (wpAny_mono h (fun r s₁ h₁ => ?_) fun x s₁ h₁ => wpAny_standAt h₁))))
  cases r with
  | none =>
    refine seg_again rfl ?_
    show Seg _ A R Y n s₀ _ ((((execs [] env).onRaise (fun x => do noteFrame x env; theTreesLotGoes x)) >>= fun f => pure (Fin.done f))) fs s₁
    exact h₁
  | some v =>
    refine seg_bind_wrap (wpAny_mono h₁ (fun _ s₂ h₂ => ?_) fun _ _ e => e)
    refine seg_bind_wrap (wpAny_mono h₂ (fun _ s₃ h₃ => ?_) fun _ _ e => e)
    rw [Sem.bind_eq_wrap', Sem.wrap_wrap]
    refine Eq.mpr (congrArg (fun t => Seg (model P w) A R Y n s₀ (.forLoop target it body [] env) t fs s₃) ?_) h₃
    exact Sem.wrap_congr (execs body env) _ _ (fun f => by cases f <;> rfl) (fun e => rfl)
end
end Mine
end

section
open PySem PySem.W PyProof.Rows
set_option maxRecDepth 100000
namespace Mine

/-- the first n sizes that the generator tells -/
def gen : Nat → List Int → Option Int → List Int
  | 0, _, _ => []
  | _ + 1, [], _ => []
  | n + 1, x :: r, last => if x = 127 then [] else if x = 0 then (match last with | none => [] | some l => List.replicate (n + 1) l) else x :: gen n r (some x)

def gForB : List Stmt := match dBod (stAt 2) with
  | [_, .For _ _ b _ _] => b
  | _ => []
def gForT : Expr := match dBod (stAt 2) with
  | [_, .For t _ _ _ _] => t
  | _ => .Constant .none 0 default
abbrev gEnv (C a : Addr) (cd : Value) : Env := envOf "_grouping_intervals" (dSco (stAt 2)) C a cd

def KeepR (L D : Addr) (s s' : Shared) : Prop := ∀ b o, b ≠ L → b ≠ D → s.heap.get? b = some o → s'.heap.get? b = some o

def gY (outs : List Int) (C I L D : Addr) : Protocol := fun m s₀ v s κ =>
  (∃ t, v = .int (outs.getD (12 - m) 0) t) ∧ 12 - m < outs.length ∧ m ≤ 12 ∧ GenSince C [I] s₀ s ∧ (m ≠ 0 → ∀ s'', KeepR L D s s'' → κ (.send .none) s'')
def gR (outs : List Int) (C I : Addr) : GenEnd := fun n s₀ r s₁ => r = .ok (.ret .none) ∧ outs.length = 13 - n ∧ n ≤ 13 ∧ GenSince C [I] s₀ s₁

/-- what the generator has of its own -/
structure HG (hb : Heap) (C I gl : Addr) (k : Nat) (last : Option Int) (h : Heap) : Prop where
  fr : ∃ m, h.Ns C m ∧ m "grouping" = some (.ref gl) ∧ (match last with | none => m "last_interval" = some .none | some l => ∃ t, m "last_interval" = some (.int l t))
  it : h.IsListIter I gl k
  keep : ∀ b o, hb.get? b = some o → h.get? b = some o

section
variable {w : World} {A : Around} {R : GenEnd} {Y : Protocol} {n : Nat} {s₀ : Shared} {c : Code} {fs : List Frame} {s : Shared} {env : Env}
  {K : Flow → Sem Fin} {H : Value → Sem Fin} {gd : Bool → Bool} {lv : List Value → List Value}

theorem seg_If {test : Expr} {body orelse : List Stmt} {pos : Pos}
    (h : wpAny (model P w) (A.over c fs) (isTrue test env (eval test env)) (fun b s' => if b then Seg (model P w) A R Y n s₀ c ((execs body env).wrap K H gd lv) fs s' else Seg (model P w) A R Y n s₀ c ((execs orelse env).wrap K H gd lv) fs s')
      (fun x s' => Seg (model P w) A R Y n s₀ c (H x) fs s') s) :
    Seg (model P w) A R Y n s₀ c ((exec (.If test body orelse pos) env).wrap K H gd lv) fs s := by
  rw [exec_If]
  refine seg_bind_wrap (wpAny_standAt (seg_bind_wrap (wpAny_mono h (fun b s' h' => ?_) fun _ _ e => e)))
  cases b with
  | true => exact h'
  | false => exact h'

theorem seg_stmt {st : Stmt} {rest : List Stmt}
    (h : wpAny (model P w) (A.over c fs) (exec st env) (fun f s' => match f with | .next => Seg (model P w) A R Y n s₀ c ((execs rest env).wrap K H gd lv) fs s' | f => Seg (model P w) A R Y n s₀ c (K f) fs s')
      (fun x s' => Seg (model P w) A R Y n s₀ c (H x) fs s') s) :
    Seg (model P w) A R Y n s₀ c ((execs (st :: rest) env).wrap K H gd lv) fs s := by
  refine seg_execs_cons (seg_wrap (wpAny_mono h (fun f s' h' => ?_) fun _ _ e => e))
  cases f <;> exact h'
end

section
variable {w : World} {A : Around} {mg mb : Str → Option Value} {hb : Heap} {C I gl a L D : Addr} {cd : Value} {items : List Value} {ns : List Int}

theorem over1 {k : Result → Sem Fin} {c c' : Code} {g : Bool} {l : List Value} {p : Pos} (hh : A.handled = none) : (A.over c [.ret k none g l c' p []]).handled = none := by
  show (marksOver [_] (A.handled, A.handled)).1 = none
  rw [hh]; rfl
theorem over2 {k k' : Result → Sem Fin} {c c' c'' : Code} {g g' : Bool} {l l' : List Value} {p p' : Pos} (hh : A.handled = none) : (A.over c [.ret k none g l c' p [], .ret k' none g' l' c'' p' []]).handled = none := by
  show (marksOver [_, _] (A.handled, A.handled)).1 = none
  rw [hh]; rfl

theorem HG.keepR {k : Nat} {last : Option Int} {s s' : Shared} (x : HG hb C I gl k last s.heap) (hk : KeepR L D s s') (hCL : C ≠ L) (hCD : C ≠ D) (hIL : I ≠ L) (hID : I ≠ D) (hL : hb.get? L = none) (hD : hb.get? D = none) : HG hb C I gl k last s'.heap :=
  ⟨let ⟨m, a, b, c⟩ := x.fr; ⟨m, a.at' fun o e => hk _ o hCL hCD e, b, c⟩, x.it.at fun o e => hk _ o hIL hID e,
    fun b o e => hk b o (fun q => by rw [q, hL] at e; cases e) (fun q => by rw [q, hD] at e; cases e) (x.keep b o e)⟩

/-- the endless loop -/
theorem gen_while {outs : List Int} {kk : Nat} {p1 p2 p3 p4 p5 p6 : Pos} {k1 k2 : Result → Sem Fin} {c1 c2 : Code} {l : Int} {k : Nat}
    (hCL : C ≠ L) (hCD : C ≠ D) (hIL : I ≠ L) (hID : I ≠ D) (hL : hb.get? L = none) (hD : hb.get? D = none) :
    ∀ (n : Nat) (s₀ s : Shared), 1 ≤ n → n ≤ 13 → outs.length = 13 → (∀ j, 13 - n ≤ j → j < 13 → outs.getD j 0 = l) → HG hb C I gl k (some l) s.heap → GenSince C [I] s₀ s →
      Seg (model P w) A (gR outs C I) (gY outs C I L D) n s₀ (.whileLoop (.Constant (.bool true) kk p1) [.Expr (.Yield (some (.Name "last_interval" p2)) p3) p4] [] (gEnv C a cd))
        ((model P w).den (.whileLoop (.Constant (.bool true) kk p1) [.Expr (.Yield (some (.Name "last_interval" p2)) p3) p4] [] (gEnv C a cd))) [.ret k2 none false [] c2 p5 [], .ret k1 none false [] c1 p6 []] s
  | 0, _, _, h, _, _, _, _, _ => by omega
  | n + 1, s₀, s, _, hn, ho, hl, hg, hs => by
    refine seg_whileLoop (isTrue_plain (Constant_bool (wpAny_truthy_bool ?_)))
    rw [if_pos rfl]
    refine seg_execs_cons (seg_Expr_Yield rfl rfl rfl ?_)
    obtain ⟨m, f1, f2, t, f3⟩ := hg.fr
    refine ldE f1 f3 fun kap hkap => ⟨⟨t, by rw [hl (12 - n) (by omega) (by omega)]⟩, by omega, by omega, hs, fun hn0 s'' hk => hkap _ _ ?_⟩
    refine seg_execs_nil (seg_again rfl ?_)
    exact gen_while hCL hCD hIL hID hL hD n s'' s'' (by omega) (by omega) ho (fun j h1 h2 => hl j (by omega) h2) (hg.keepR hk hCL hCD hIL hID hL hD) (GenSince.refl _ _ _)

theorem ints_at {vs : List Value} {ks : List Int} (h : IntsAre vs ks) {i : Nat} (hi : i < vs.length) : ∃ t, vs[i]? = some (.int (ks.getD i 0) t) ∧ ks.drop i = ks.getD i 0 :: ks.drop (i + 1) := by
  obtain ⟨t, e⟩ := h.int_at i vs[i] (by simp [hi])
  have hl := h.length
  refine ⟨t, by simp [hi, e], ?_⟩
  rw [List.drop_eq_getElem_cons (by omega)]
  congr 1
  simp [List.getD, show i < ks.length by omega]

set_option maxHeartbeats 1000000 in
/-- the loop over the row of sizes -/
theorem gen_for {outs : List Int} {p6 : Pos} {k1 : Result → Sem Fin} {c1 : Code} (hh : A.handled = none) (B : Base w mg mb hb) (hgl : hb.IsList gl items.toArray) (hi : IntsAre items ns)
    (hCL : C ≠ L) (hCD : C ≠ D) (hIL : I ≠ L) (hID : I ≠ D) (hIC : I ≠ C) (hL : hb.get? L = none) (hD : hb.get? D = none) (hC : hb.get? C = none) (hI : hb.get? I = none)
    (hend : ∀ (n : Nat) (s₀ s : Shared), outs.length = 13 - n → n ≤ 13 → GenSince C [I] s₀ s → Seg (model P w) A (gR outs C I) (gY outs C I L D) n s₀ c1 (k1 (.ok .next)) [] s ∧
      Seg (model P w) A (gR outs C I) (gY outs C I L D) n s₀ c1 (k1 (.ok (.ret .none))) [] s) :
    ∀ (n k : Nat) (last : Option Int) (s₀ s : Shared) (pre : List Int), n + k = 13 → 1 ≤ n → outs = pre ++ gen n (ns.drop k) last → pre.length = k → (last = none → (ns.drop k).head? ≠ some 0) → HG hb C I gl k last s.heap → GenSince C [I] s₀ s →
      Seg (model P w) A (gR outs C I) (gY outs C I L D) n s₀ (.forLoop gForT (.ref I) gForB [] (gEnv C a cd)) ((model P w).den (.forLoop gForT (.ref I) gForB [] (gEnv C a cd))) [.ret k1 none false [] c1 p6 []] s
  | 0, _, _, _, _, _, _, h, _, _, _, _, _ => by omega
  | n + 1, k, last, s₀, s, pre, hnk, _, ho, hp, hz, hg, hs => by
    have hl' : s.heap.IsList gl items.toArray := hgl.at fun o e => hg.keep _ o e
    have hglI : gl ≠ I := fun q => by obtain ⟨o, e, _⟩ := hgl; rw [q, hI] at e; cases e
    have hglC : gl ≠ C := fun q => by obtain ⟨o, e, _⟩ := hgl; rw [q, hC] at e; cases e
    refine seg_forLoop ?_
    by_cases hlt : k < items.length
    · obtain ⟨t, ht, hd⟩ := ints_at hi hlt
      generalize ns.getD k 0 = x at ht hd
      refine wpAny_pyNext_list_item hg.it hl' (x := .int x t) (by simpa using ht) fun h₁ hit₁ hs₁ => ?_
      refine wpAny_pure ?_
      obtain ⟨m, f1, f2, f3⟩ := hg.fr
      refine wpAny_assign_Name (wpAny_storeName_local (env := gEnv C a cd) rfl (f1.at' fun o e => hs₁.extBut _ o (Ne.symm hIC) e) (fun h₂ hn₂ hs₂ => ?_) rfl)
      have k2 : ∀ b o, b ≠ C → b ≠ I → s.heap.get? b = some o → h₂.get? b = some o := fun b o h1 h2 e => hs₂.extBut b o h1 (hs₁.extBut b o h2 e)
      have kb : ∀ b o, hb.get? b = some o → h₂.get? b = some o := fun b o e => k2 b o (fun q => by rw [q, hC] at e; cases e) (fun q => by rw [q, hI] at e; cases e) (hg.keep b o e)
      have B₂ : Base w mg mb h₂ := B.keeps kb
      have hit₂ : h₂.IsListIter I gl (k + 1) := hit₁.at fun o e => hs₂.extBut _ o hIC e
      have hs' : ∀ tk, GenSince C [I] s₀ { s with heap := h₂, toks := tk } := fun tk => hs.step fun b o h1 h2 e => k2 b o h1 (by simpa using h2) e
      obtain ⟨tc, hcm⟩ := B₂.cm
      -- is it CHAR_MAX
      refine seg_execs_cons (seg_If (wpAny_isTrue_Compare1 (ldE hn₂ (by rfl) (ldg B₂ hcm (eq_int (wpAny_truthy_bool ?_))))))
      by_cases hx127 : x = 127
      · subst hx127
        rw [if_pos (by rfl)]
        refine seg_stmt (wpAny_Return_none ?_)
        refine seg_leaf (.ok (.ret .none)) (hend _ _ _ ?_ (by omega) (hs' _)).2
        rw [ho, hd]
        show (pre ++ []).length = _
        rw [List.append_nil]; omega
      rw [if_neg (by simpa using hx127)]
      refine seg_execs_nil ?_
      -- is it nought
      refine seg_execs_cons (seg_If (wpAny_isTrue_Compare1 (ldE hn₂ (by rfl) (wpAny_Constant_int (eq_int (wpAny_truthy_bool ?_))))))
      by_cases hx0 : x = 0
      · subst hx0
        rw [if_pos (by rfl)]
        cases last with
        | none => exact absurd (by rw [hd]; rfl) (hz rfl)
        | some l =>
        obtain ⟨tl, f3⟩ := f3
        refine seg_execs_cons (seg_If (wpAny_isTrue_Compare1 (ldE hn₂ f3 (wpAny_Constant_none (is_none (wpAny_truthy_bool ?_))))))
        rw [if_neg (by simp)]
        refine seg_execs_nil (seg_execs_cons (seg_While fun p => ?_))
        refine gen_while hCL hCD hIL hID hL hD (n + 1) s₀ _ (by omega) (by omega) ?_ ?_ (k := k + 1) ⟨⟨_, hn₂, f2, tl, f3⟩, hit₂, kb⟩ (hs' _)
        · rw [ho, hd]
          show (pre ++ List.replicate (n + 1) l).length = 13
          rw [List.length_append, List.length_replicate]; omega
        · intro j h1 h2
          rw [ho, hd]
          show (pre ++ List.replicate (n + 1) l).getD j 0 = l
          rw [List.getD, List.getElem?_append_right (by omega)]
          simp [show j - pre.length < n + 1 by omega]
      rw [if_neg (by simpa using hx0)]
      refine seg_execs_nil ?_
      -- it is told
      have hg' : gen (n + 1) (ns.drop k) last = x :: gen n (ns.drop (k + 1)) (some x) := by
        rw [hd]
        show (if x = 127 then [] else if x = 0 then _ else x :: gen n _ (some x)) = _
        rw [if_neg hx127, if_neg hx0]
      refine seg_execs_cons (seg_Expr_Yield rfl rfl rfl ?_)
      refine ldE hn₂ (by rfl) fun kap hkap => ⟨⟨t, ?_⟩, ?_, by omega, hs' _, fun hn0 s'' hk => hkap _ _ ?_⟩
      · rw [ho, hg', show 12 - n = pre.length by omega]
        simp [List.getD]
      · rw [ho, hg', List.length_append, List.length_cons]; omega
      have hns3 : s''.heap.Ns C _ := hn₂.at' fun o e => hk _ o hCL hCD e
      refine seg_stmt (wpAny_Assign_Name (ldE hns3 (by rfl) (wpAny_storeName_local (env := gEnv C a cd) rfl hns3 (fun h₃ hn₃ hs₃ => ?_) rfl)))
      refine seg_execs_nil (seg_again rfl ?_)
      refine gen_for hh B hgl hi hCL hCD hIL hID hIC hL hD hC hI hend n (k + 1) (some x) s'' _ (pre ++ [x]) (by omega) (by omega) ?_ (by simp [hp]) (fun e => by cases e) ⟨⟨_, hn₃, f2, t, by rfl⟩, ?_, fun b o e => ?_⟩ ((GenSince.refl _ _ _).step fun b o h1 _ e => hs₃.extBut b o h1 e)
      · rw [ho, hg']; simp
      · exact (hit₂.at fun o e => hk _ o hIL hID e).at fun o e => hs₃.extBut _ o hIC e
      · exact hs₃.extBut b o (fun q => by rw [q] at e; rw [show (gEnv C a cd).locals = C from rfl, hC] at e; cases e) (hk b o (fun q => by rw [q, hL] at e; cases e) (fun q => by rw [q, hD] at e; cases e) (kb b o e))
    · have hkn : ns.drop k = [] := List.drop_eq_nil_of_le (by have := hi.length; omega)
      refine wpAny_pyNext_list_end (over1 hh) hg.it hl' (by simp; omega) fun h₁ he₁ => ?_
      refine seg_leaf (.ok .next) (hend _ _ _ ?_ (by omega) (hs.step fun b o h1 h2 e => he₁ b o (by simpa using h2) e)).1
      rw [ho, hkn]
      show (pre ++ []).length = _
      rw [List.append_nil]; omega
end
end Mine
end

section
open PySem PySem.W PyProof.Rows
set_option maxRecDepth 100000
namespace Mine
section
variable {w : World} {A : Around} {mg mb : Str → Option Value} {hb : Heap} {C I gl a L D : Addr} {cd : Value} {items : List Value} {ns : List Int} {s : Shared}

set_option maxHeartbeats 1000000 in
theorem gen_start {m : Str → Option Value} (hh : A.handled = none) (B : Base w mg mb hb) (hgl : hb.IsList gl items.toArray) (hi : IntsAre items ns)
    (hCL : C ≠ L) (hCD : C ≠ D) (hIL : I ≠ L) (hID : I ≠ D) (hIC : I ≠ C) (hL : hb.get? L = none) (hD : hb.get? D = none) (hC : hb.get? C = none) (hI : hb.get? I = none)
    (hns : s.heap.Ns C m) (hm : m "grouping" = some (.ref gl)) (hk : ∀ b o, hb.get? b = some o → s.heap.get? b = some o) (hIs : I = s.heap.objs.size) (hz : ns.head? ≠ some 0) :
    Seg (model P w) A (gR (gen 13 ns none) C I) (gY (gen 13 ns none) C I L D) 13 s (.func (dBod (stAt 2)) (gEnv C a cd)) ((model P w).den (.func (dBod (stAt 2)) (gEnv C a cd))) [] s := by
  refine seg_func ?_
  refine seg_stmt (wpAny_Assign_Name (wpAny_Constant_none (wpAny_storeName_local (env := gEnv C a cd) rfl hns (fun h₁ hn₁ hs₁ => ?_) rfl)))
  have k1 : ∀ b o, hb.get? b = some o → h₁.get? b = some o := fun b o e => hs₁.extBut b o (fun q : b = C => by rw [q, hC] at e; cases e) (hk b o e)
  refine seg_execs_cons (seg_For (ldE hn₁ hm (wpAny_pyIter_list (hgl.at fun o e => k1 _ o e) ?_)))
  have hsz : h₁.objs.size = I := by rw [hIs]; exact hs₁.1
  dsimp only
  rw [hsz]
  intro p
  refine gen_for hh B hgl hi hCL hCD hIL hID hIC hL hD hC hI ?_ 13 0 none s _ [] rfl (by omega) rfl rfl (fun _ => hz) ⟨⟨_, hn₁.push _, hm, by rfl⟩, ⟨_, by rw [← hsz]; exact Heap.get?_push_size _ rfl, rfl, rfl⟩, fun b o e => Heap.get?_push_of_some _ (k1 b o e)⟩
    ((GenSince.refl _ _ _).step fun b o h1 _ e => Heap.get?_push_of_some _ (hs₁.extBut b o h1 e))
  intro n s₀ s' h1 h2 h3
  exact ⟨seg_end (.ok (.ret .none)) ⟨rfl, h1, h2, h3⟩, seg_end (.ok (.ret .none)) ⟨rfl, h1, h2, h3⟩⟩
end
end Mine
end

section
open PySem PySem.W PyProof.Rows
set_option maxRecDepth 100000
namespace Mine

def marksGo : List Int → Int → List Int → List Int
  | [], _, acc => acc
  | x :: r, reached, acc => if reached + x > 1114111 ∨ acc.length = 12 then acc else marksGo r (reached + x) (acc ++ [reached + x])
def marksOf (ns : List Int) : List Int := marksGo (gen 13 ns none) 0 []

theorem allBare_set {s : Shared} {g : Nat} {gs : GenState} (h : AllBare s.gens) (hg : gs.bare = true) : AllBare (s.setGen g gs).gens := by
  intro y hy
  rcases Array.mem_or_eq_of_mem_setIfInBounds hy with h' | h'
  · exact h y h'
  · exact h' ▸ hg

section
variable {w : World} {A : Around} {E : Value → Shared → Prop} {s : Shared}

/-- the next of a generator that returns None at its end -/
theorem next_gen {a : Addr} {g n : Nat} {gs : GenState} {Rr : GenEnd} {Y : Protocol} {Q : Option Value → Shared → Prop} (hh : A.handled = none)
    (hl : s.heap.NoLimit) (hroom : A.depth < recursionLimit)
    (hg : s.heap.IsGen a g) (hgs : s.gens[g]? = some gs)
    (hgo : gs.Goes (model P w) A.in1 Rr Y n (.send .none) (s.setGen g .running))
    (hY : ∀ v s₁ gs', gs'.bare = true → Y (n - 1) (s.setGen g .running) v s₁ (fun r' s'' => match n with
        | 0 => False
        | m + 1 => gs'.Goes (model P w) A.in1 Rr Y m r' s'') → Q (some v) (s₁.setGen g gs'))
    (hP : ∀ r s₁, Rr n (s.setGen g .running) r s₁ → r = .ok (.ret .none) ∧ ∀ h', (∀ b o, s₁.heap.get? b = some o → h'.get? b = some o) → Q none { s₁.setGen g .finished with heap := h' }) :
    wpAny (model P w) A (pyNext (.ref a)) Q E s := by
  unfold pyNext
  refine wpAny_bind (wpAny_attempt (wpAny_callSpecial?_slot (name := Str.ofString "__next__") hg.typeIs slot_gen_next
    (wpAny_call_entry slot_gen_next hg.typeIs entry_gen_next ?_ (args_gen_next _))))
  show wpAny _ A.in1 (Builtin.Generator.genWake (.ref a) (.send .none)) _ _ s
  unfold Builtin.Generator.genWake
  refine wpAny_bind (wpAny_holding (wpAny_genNumber hg (wpAny_bind (wpAny_genState hgs ?_))))
  cases gs with
  | running => exact hgo.elim
  | finished => exact hgo.elim
  | _ =>
    refine wpAny_bind (wpAny_roomToWake hl hroom ?_)
    show wpAny _ A.in1 (.resume g (.send .none) [] _) _ _ s
    refine wpAny_resumeQ hgs hgo (fun x s₁ hx => ?_) (fun v s₁ gs' hb hv => ?_)
    · obtain ⟨rfl, hp⟩ := hP _ _ hx
      show wpAny _ A.in1 (newExc (.type "StopIteration") [] >>= _) _ _ _
      refine wpAny_bind ?_
      simp only [newExc, newTuple]
      refine wpAny_bind (wpAny_newObj_type ?_ (by size_fits))
      refine wpAny_bind (m := firstArgMember _ _) (wpAny_of_eq (a := Value.none) (by first | rfl | (simp only [firstArgMember]; rfl)) ?_)
      refine wpAny_newObj_type ?_ (by size_fits)
      simp only [raiseNew]
      refine wpAny_bind (wpAny_bind (wpAny_handled ?_))
      first | rw [show A.in1.handled = none from hh] | rw [hh]
      refine wpAny_throw ?_
      refine wpAny_bind (wpAny_isInstance (T := "StopIteration") (b := true) ⟨_, Heap.get?_push_size _ rfl, rfl⟩ isSubtype_stop ?_)
      exact wpAny_pure (hp _ fun b o hb => Heap.get?_push_of_some _ (Heap.get?_push_of_some _ hb))
    · exact wpAny_pure ⟨v, rfl, wpAny_pure (hY v s₁ gs' hb hv)⟩
end

section
variable {w : World} {A : Around} {E : Value → Shared → Prop} {s : Shared} {mg mb : Str → Option Value}

/-- the generator's making -/
theorem mkGen {a gl : Addr} {Q : Value → Shared → Prop} {d u : Nat} (B : Base w mg mb s.heap) (R : Room A d u) (Fn : FnAt s.heap mg "_grouping_intervals" 2 a)
    (h : ∀ (cd : Value) (h₁ : Heap) (tk : Nat) (t u : Tok), h₁.Ns s.heap.objs.size (fun x => if x = "grouping" then some (.ref gl) else none) → (∀ b o, s.heap.get? b = some o → h₁.get? b = some o) → h₁.objs.size = s.heap.objs.size + 1 →
      Q (.ref (s.heap.objs.size + 1)) { s with gens := s.gens.push (.fresh (.func (dBod (stAt 2)) (gEnv s.heap.objs.size a cd))), toks := tk, heap := h₁.push { cls := .type "generator", data := .fields #[.int s.gens.size 0, .str "_grouping_intervals" t, .str "_grouping_intervals" u] } }) :
    wpAny (model P w) A (call (.ref a) [.ref gl]) Q E s := by
  obtain ⟨o, pm, cd, doc, h1, h2, h3, h4⟩ := Fn
  refine wpAny_call (codeAny_call_generator R.here h2 h3 rfl rfl rfl h4 ?_)
  rw [show bindArgs (Calls.docDef "_grouping_intervals" (dPar (stAt 2)) (dBod (stAt 2)) (dSco (stAt 2)) pm cd doc) ⟨[Value.ref gl], []⟩ = pure [(("grouping" : Str), Value.ref gl)] from by rfl]
  refine wpAny_pure (wpAny_newFunctionEnv (by show ∀ x ∈ (dSco (stAt 2)).names, _; decide) (by intro x hx; simp at hx; subst hx; rfl) (fun h₁ hns hsb => ⟨B.nolimit.fresh _ hsb, ?_⟩) rfl)
  have hsz : h₁.objs.size = s.heap.objs.size + 1 := by rw [hsb.1, Heap.size_push]
  dsimp only
  rw [hsz]
  refine h cd h₁ _ _ _ ?_ (fun b o e => hsb.extBut b o (Nat.ne_of_lt (Heap.lt_size e)) (Heap.get?_push_of_some _ e)) hsz
  have e : (fun x => [(("grouping" : Str), Value.ref gl)].reverse.lookup x) = (fun x : Str => if x = "grouping" then some (.ref gl) else none) := by
    funext x
    simp only [List.reverse_cons, List.reverse_nil, List.nil_append, List.lookup_cons, List.lookup_nil]
    by_cases q : x = "grouping"
    · subst q; rfl
    · have : (x == ("grouping" : Str)) = false := by simpa using q
      rw [this, if_neg q]
  rw [← e]; exact hns
end
end Mine
end

section
open PySem PySem.W PyProof.Rows
set_option maxRecDepth 100000
namespace Mine

theorem gen_at {h h' : Heap} {a : Addr} {g : Nat} (x : h.IsGen a g) (e : ∀ o, h.get? a = some o → h'.get? a = some o) : h'.IsGen a g :=
  let ⟨o, nm, qn, ho, r⟩ := x; ⟨o, nm, qn, e _ ho, r⟩
section
variable {w : World} {A : Around} {E : Value → Shared → Prop} {s : Shared} {mg mb : Str → Option Value}

set_option maxHeartbeats 1000000 in
theorem marks_told {a gl : Addr} {items : List Value} {ns : List Int} {Q : Value → Shared → Prop} (B : Base w mg mb s.heap) (R : Room A 3 40) (Fn : FnAt s.heap mg "_law_marks" 19 a)
    (hgl : s.heap.IsList gl items.toArray) (hi : IntsAre items ns) (hz : ns.head? ≠ some 0)
    (h : ∀ s' l D ys t, Kp s s' → s'.heap.PlainList l #[.ref D, .str "told" t] → s'.heap.PlainList D ys.toArray → IntsAre ys (marksOf ns) → Q (.ref l) s') :
    wpAny (model P w) A (call (.ref a) [.ref gl]) Q E s := by
  refine enter (binds := [(("sizes" : Str), Value.ref gl)]) B R Fn (fun _ _ _ => by rfl)
    (by intro x hx; simp at hx; subst hx; rfl) (fun cd h₁ F => ?_)
  have R' : Room (A.deeper (envOf "_law_marks" (dSco (stAt 19)) s.heap.objs.size a cd)) 2 37 := R.deeper _
  refine wpAny_execs_cons (wpAny_Assign_Name (wpAny_List (wpAny_items_nil ⟨Nat.zero_le _, ?_⟩)))
  have hL : s.heap.objs.size < h₁.objs.size := F.ns.lt
  refine stS (F.push _) fun h₂ F₂ hs₂ => ?_
  have hDne : h₁.objs.size ≠ s.heap.objs.size := Nat.ne_of_gt hL
  have hpl : h₂.PlainList h₁.objs.size ([] : List Value).toArray := ⟨0, hs₂.extBut _ _ hDne (Heap.get?_push_size _ rfl)⟩
  have hDf : s.heap.get? h₁.objs.size = none := noneFrom (Nat.le_of_lt hL)
  generalize h₁.objs.size = D at *
  refine wpAny_execs_cons (wpAny_Assign_Name (wpAny_Constant_int (stS F₂ fun h₃ F₃ hs₃ => ?_)))
  have hpl₃ : h₃.PlainList D ([] : List Value).toArray := hpl.at fun o e => hs₃.extBut _ o hDne e
  have B₃ : Base w mg mb h₃ := B.keeps F₃.keep
  have hDlt : D < h₃.objs.size := by obtain ⟨n, e⟩ := hpl₃; exact Heap.lt_size e
  have hLlt : s.heap.objs.size < h₃.objs.size := F₃.ns.lt
  obtain ⟨fg, Fg⟩ := B₃.f2
  refine wpAny_execs_cons (wpAny_Try_except (wpAny_execs_cons (wpAny_For ?_)))
  refine callF2 B₃ Fg (wpAny_items_cons (ld F₃ (by rfl) (wpAny_items_nil ⟨fun _ _ e => e, ?_⟩)))
  refine mkGen (gl := gl) B₃ R' Fg fun cd' h₄ tk t u hn₄ k₄ hsz₄ => ?_
  dsimp only
  generalize hC : h₃.objs.size = C at *
  generalize hH : h₄.push { cls := .type "generator", data := .fields #[.int s.gens.size 0, .str "_grouping_intervals" t, .str "_grouping_intervals" u] } = h₅ at *
  have hG : h₅.IsGen (C + 1) s.gens.size := ⟨_, _, _, by rw [← hH, ← hsz₄]; exact Heap.get?_push_size _ rfl, rfl, rfl, rfl⟩
  have k₅ : ∀ b o, h₄.get? b = some o → h₅.get? b = some o := fun b o e => hH ▸ Heap.get?_push_of_some _ e
  have hsz₅ : h₅.objs.size = C + 2 := by rw [← hH, Heap.size_push, hsz₄]
  refine wpAny_pyIter_gen hG ?_
  have hsC : s.heap.objs.size < C := hLlt
  -- the loop
  refine codeAny_mono (R := fun r s' => r = .ok .next ∧ ∃ m ys, Fr s.heap s.heap.objs.size s'.heap m ∧ m "marks" = some (.ref D) ∧ s'.heap.PlainList D ys.toArray ∧ IntsAre ys (marksOf ns) ∧ s'.os = s.os ∧ (AllBare s.gens → AllBare s'.gens)) ?loop ?fin
  case fin =>
    rintro r s' ⟨rfl, m, ys, f1, f2, f3, f4, f5, f6⟩
    refine wpAny_execs_nil (wpAny_execs_nil (wpAny_execs_cons (wpAny_Return_some (wpAny_List ?_))))
    refine wpAny_items_cons (ld f1 f2 (wpAny_items_cons (wpAny_Constant_str (wpAny_items_nil ⟨by show 2 ≤ 2 ^ 24; decide, ?_⟩))))
    exact h _ _ D ys _ ⟨fun b o e => Heap.get?_push_of_some _ (f1.keep b o e), f5, f6⟩ ⟨0, Heap.get?_push_size _ rfl⟩ (f3.at fun o e => Heap.get?_push_of_some _ e) f4
  refine codeAny_forLoop_any (fun k s' => ∃ (j : Nat) (reached : Int) (tr : Tok) (ys : List Value) (acc : List Int) (m : Str → Option Value) (gs : GenState), k = 14 - j ∧ j ≤ 12 ∧ Fr s.heap s.heap.objs.size s'.heap m ∧ m "marks" = some (.ref D) ∧ m "reached" = some (.int reached tr) ∧
      s'.heap.PlainList D ys.toArray ∧ IntsAre ys acc ∧ acc.length = j ∧ marksGo ((gen 13 ns none).drop j) reached acc = marksOf ns ∧ s'.os = s.os ∧ (AllBare s.gens → AllBare s'.gens) ∧
      s'.heap.IsGen (C + 1) s.gens.size ∧ s'.gens[s.gens.size]? = some gs ∧
      gs.Goes (model P w) (A.deeper (envOf "_law_marks" (dSco (stAt 19)) s.heap.objs.size a cd)).in1 (gR (gen 13 ns none) C (C + 2)) (gY (gen 13 ns none) C (C + 2) s.heap.objs.size D) (13 - j) (.send .none) (s'.setGen s.gens.size .running)) ?turn 14 ?init
  case init =>
    refine ⟨0, 0, _, [], [], _, _, rfl, by omega, F₃.keeps fun b o e => k₅ b o (k₄ b o e), by rfl, by rfl, hpl₃.at fun o e => k₅ _ o (k₄ _ o e), .nil, rfl, rfl, rfl, fun hb => hb.push rfl, hG, Array.getElem?_push_size .., rfl, ?_⟩
    refine gen_start (hb := s.heap) (gl := gl) (items := items) (ns := ns) R'.handled B hgl hi (neA (by omega)) (neA (by omega)) (neA (by omega)) (neA (by omega)) (neA (by omega)) (noneFrom (Nat.le_refl _)) hDf (noneFrom (Nat.le_of_lt hsC)) (noneFrom (by show s.heap.objs.size ≤ C + 2; omega)) (m := fun x : Str => if x = "grouping" then some (.ref gl) else none) (hn₄.keeps k₅) (by rfl)
      (fun b o e => k₅ b o (k₄ b o (F₃.keep b o e))) hsz₅.symm hz
  rintro k s' ⟨j, reached, tr, ys, acc, m, gs, rfl, hj, f1, f2, f3, f4, f5, f6, f7, f8, f9, f10, f11, f12⟩
  have e13 : 13 - j = (12 - j) + 1 := by omega
  rw [e13] at f12
  have B' : Base w mg mb s'.heap := B.keeps f1.keep
  refine next_gen (n := (12 - j) + 1) R'.handled B'.nolimit R'.here f10 f11 f12 ?yield ?ends
  case ends =>
    rintro r s₁ ⟨rfl, ho, _, h₁', tk', rfl, hk⟩
    refine ⟨rfl, fun h' hk' => wpAny_execs_nil ⟨rfl, ?_⟩⟩
    have ks : ∀ b o, b ≠ C → b ≠ C + 2 → s'.heap.get? b = some o → h'.get? b = some o := fun b o n1 n2 e => hk' b o (hk b o n1 (by simpa using n2) e)
    have hd : (gen 13 ns none).drop j = [] := by rw [List.drop_eq_nil_iff]; omega
    rw [hd] at f7
    refine ⟨m, ys, ⟨f1.ns.at' fun o e => ks _ o (neA (by omega)) (neA (by omega)) e, fun b o e => ks b o (fun q => ?_) (fun q => ?_) (f1.keep b o e), f1.above⟩, f2, f4.at fun o e => ks _ o (neA (by omega)) (neA (by omega)) e, ?_, f8, fun hb => ?_⟩
    · have := ltA (Heap.lt_size e); rw [q] at this; omega
    · have := ltA (Heap.lt_size e); rw [q] at this; omega
    · rw [← f7]; exact f5
    · exact allBare_set (allBare_set (f9 hb) rfl) rfl
  rintro v s₁ gs' hbare ⟨⟨tv, rfl⟩, hlt, _, ⟨h₁', tk', rfl, hk⟩, hkap⟩
  have e12 : 12 - ((12 - j) + 1 - 1) = j := by omega
  rw [e12] at hlt ⊢
  have hdj : (gen 13 ns none).drop j = (gen 13 ns none).getD j 0 :: (gen 13 ns none).drop (j + 1) := by
    rw [List.drop_eq_getElem_cons hlt]
    congr 1
    simp [List.getD, hlt]
  rw [hdj] at f7
  generalize (gen 13 ns none).getD j 0 = x at *
  refine wpAny_pure ?_
  have k1 : ∀ b o, b ≠ C → b ≠ C + 2 → s'.heap.get? b = some o → h₁'.get? b = some o := fun b o n1 n2 e => hk b o n1 (by simpa using n2) e
  have F1 : Fr s.heap s.heap.objs.size h₁' m := ⟨f1.ns.at' fun o e => k1 _ o (neA (by omega)) (neA (by omega)) e, fun b o e => k1 b o (fun q => by have := ltA (Heap.lt_size e); rw [q] at this; omega) (fun q => by have := ltA (Heap.lt_size e); rw [q] at this; omega) (f1.keep b o e), f1.above⟩
  refine wpAny_assign_Name (stS F1 fun h₂' F2 hs2 => ?_)
  refine wpAny_execs_cons (wpAny_AugAssign_Name (ldn F2 (by rw [if_neg (by decide)]; exact f3) (ld F2 (by rfl) (iadd_int (stS F2 fun h₃' F3 hs3 => ?_)))))
  have k3 : ∀ b o, b ≠ s.heap.objs.size → h₁'.get? b = some o → h₃'.get? b = some o := fun b o n1 e => hs3.extBut b o n1 (hs2.extBut b o n1 e)
  have hp3 : h₃'.PlainList D ys.toArray := (f4.at fun o e => k1 _ o (neA (by omega)) (neA (by omega)) e).at fun o e => k3 _ o hDne e
  have B3 : Base w mg mb h₃' := B.keeps F3.keep
  have hyl : ys.length = j := by rw [f5.length]; exact f6
  refine wpAny_execs_cons (wpAny_If (isTrue_or (wpAny_isTrue_Compare1 (ld F3 (by rfl) (wpAny_Constant_int (gt_int (wpAny_truthy_bool ?_)))))))
  have m2 : ∀ tt : Tok, (fun y => if y = ("reached" : Str) then some (Value.int (reached + x) tt) else if y = ("size" : Str) then some (Value.int x tv) else m y) "marks" = some (.ref D) := by
    intro tt
    show (if ("marks" : Str) = "reached" then _ else if ("marks" : Str) = "size" then _ else m "marks") = _
    rw [if_neg (by decide), if_neg (by decide)]; exact f2
  have hbr : AllBare s.gens → AllBare (((({ (s'.setGen s.gens.size .running) with heap := h₁', toks := tk' } : Shared)).setGen s.gens.size gs').gens) := fun hb => allBare_set (s := { (s'.setGen s.gens.size .running) with heap := h₁', toks := tk' }) (allBare_set (f9 hb) rfl) hbare
  have stop : (reached + x > 1114111 ∨ acc.length = 12) → IntsAre ys (marksOf ns) := fun hc => by
    rw [← f7]
    show IntsAre ys (if reached + x > 1114111 ∨ acc.length = 12 then acc else _)
    rw [if_pos hc]
    exact f5
  cases c1 : decide (1114111 < reached + x) with
  | true =>
    rw [if_pos rfl, if_pos rfl]
    exact wpAny_execs_cons (wpAny_Break ⟨rfl, _, ys, F3, (m2 _), hp3, stop (.inl (of_decide_eq_true c1)), f8, hbr⟩)
  | false =>
  have c1' := of_decide_eq_false c1
  rw [if_neg Bool.false_ne_true]
  refine isTrue_or (wpAny_isTrue_Compare1 ?_)
  refine callB2 (id := "len") B3 (by decide) (by rfl) ?_
  refine wpAny_items_cons (ld F3 (m2 _) (wpAny_items_nil ?_))
  refine len_list (hp3.isList) (by rw [List.size_toArray, hyl]; omega) ?_
  refine wpAny_Constant_int (eq_int (wpAny_truthy_bool ?_))
  rw [List.size_toArray, hyl]
  cases c2 : ((j : Int) == 12) with
  | true =>
    rw [if_pos rfl, if_pos rfl]
    have : acc.length = 12 := by rw [f6]; have := eq_of_beq c2; omega
    exact wpAny_execs_cons (wpAny_Break ⟨rfl, _, ys, F3, (m2 _), hp3, stop (.inr this), f8, hbr⟩)
  | false =>
  rw [if_neg Bool.false_ne_true]
  refine isTrue_or_nil ?_
  rw [if_neg Bool.false_ne_true]
  refine wpAny_execs_nil ?_
  have hj12 : j ≠ 12 := fun q => by subst q; exact absurd c2 (by decide)
  refine wpAny_execs_cons (appendS F3 (m2 _) hp3 (by omega) (fun hq => ld F3 (by rfl) (hq _)) (fun h₄' tk₄ hp4 hs4 => ?_) (by rfl) (by rfl) (by rfl))
  refine wpAny_execs_nil ⟨14 - (j + 1), by omega, j + 1, reached + x, _, _, acc ++ [reached + x], _, gs', rfl, by omega, F3.change hs4 hDne hDf, (m2 _), by rfl, hp4, f5.append (.cons _ _ .nil), by simp [f6], ?_, f8, hbr, ?_, ?_, ?_⟩
  · rw [← f7]
    show _ = (if reached + x > 1114111 ∨ acc.length = 12 then acc else _)
    rw [if_neg (by rw [f6]; omega)]
  · exact gen_at (gen_at (gen_at f10 fun o e => k1 _ o (neA (by omega)) (neA (by omega)) e) fun o e => k3 _ o (neA (by omega)) e) fun o e => hs4.extBut _ o (neA (by omega)) e
  · exact setGen_self (gs := .running) (setGen_self f11)
  · have e2 : 13 - (j + 1) = 12 - j := by omega
    rw [e2]
    refine hkap (by omega) _ ?_
    intro b o n1 n2 e
    exact hs4.extBut b o n2 (k3 b o n1 e)
end
end Mine
end

section
open PySem PySem.W PyProof.Rows
set_option maxRecDepth 100000
namespace Mine

section
variable {M : Model} {A : Around} {E : Value → Shared → Prop} {s : Shared}

theorem wpAny_raise' {α : Type} {e : Value} {Q : α → Shared → Prop} (h : E e s) : wpAny M A (.raise e : Sem α) Q E s := fun _ _ _ => h

theorem leaves_held {base : Heap} {env : Env} {outer : List Env} {L e : Addr} {cls a0 : Value} {Q : Unit → Shared → Prop} (hf : env.frame = some L)
    (hh : Heap.HeldW base (env :: outer) e cls a0 L s.heap) (hQ : ∀ h', Heap.FlyingW base outer e cls a0 h' → s.heap.UpToSlots h' → Q () { s with heap := h' }) : wpAny M A (leaving env (.ref e)) Q E s := by
  unfold leaving
  refine wpAny_bind (wpAny_noteFrame_againW hf hh.2.2.2 ?_)
  refine wpAny_landsW hh fun h' hfl u => ?_
  obtain ⟨k1, k2, ⟨_, _, k3⟩, k4⟩ := hfl
  exact hQ h' ⟨k1, k2, k3, k4⟩ u

/-- the first look at an exception that has just been made -/
theorem looks_made {base h : Heap} {env : Env} {outer : List Env} {L e : Addr} {cls : String} {args : List Value} {Q : Unit → Shared → Prop}
    (hfr : A.frames = some (env :: outer)) (hf : env.frame = some L) (hkb : base.StaysIn h) (hl : h.FunFrames base (env :: outer)) (hx : Heap.MadeExc h s.heap e cls args)
    (hQ : ∀ h' t, Heap.HeldW base (env :: outer) e (.type cls) (.ref t) L h' → s.heap.UpToSlots h' → Q () { s with heap := h' }) : wpAny M A (noteFrame (.ref e) env) Q E s := by
  obtain ⟨t, he, htn, ht⟩ := hx.there
  have fresh : ∀ b, h.get? b = none → base.get? b = none := fun b hb => by
    cases hq : base.get? b with
    | none => rfl
    | some o' => have := hkb b o' hq; rw [hb] at this; cases this
  unfold noteFrame
  simp only [hf]
  refine wpAny_bind (wpAny_field he rfl (x := .none) rfl ?_)
  rw [if_neg (by decide)]
  refine wpAny_entryW (base := base) (a0 := .ref t) hfr (hl.of_keeps fun b o hb _ => ⟨o, hx.keeps b o hb, rfl⟩) hf he (fun b o hb => hx.keeps b o (hkb b o hb)) (fresh e hx.new) rfl (by simp) rfl fun h' hN => ?_
  obtain ⟨k1, k2, k3, k4⟩ := hN
  exact hQ h' t ⟨k1, fresh e hx.new, k2, k3⟩ k4

theorem setFlight_some {base : Heap} {l : List Env} {e L : Addr} {cls a0 : Value} {L' : Addr} {Q : Unit → Shared → Prop} (hh : Heap.HeldW base l e cls a0 L s.heap)
    (hQ : ∀ h', Heap.HeldW base l e cls a0 L' h' → s.heap.UpToSlots h' → Q () { s with heap := h' }) : wpAny M A (setFlight (.ref e) (some L')) Q E s := by
  obtain ⟨hkb, hen, hl, oe, vs, T, oT, ts, he, hcls, hd, h1, hnT, hTe, hT, hdT, h3⟩ := hh
  have hsz3 : 3 < ts.size := (Array.getElem?_eq_some_iff.mp h3).1
  have other : ∀ b, b ≠ T → (s.heap.update T (Obj.mapFields (·.setIfInBounds 3 (rawInt L')))).get? b = s.heap.get? b :=
    fun b hb => Heap.get?_update_other _ _ (Ne.symm hb)
  have noRecord : ∀ b o, s.heap.get? b = some o → (∀ vs, o.data ≠ .fields vs) → b ≠ T := fun b o hb hnf q => by
    rw [q, hT] at hb; injection hb with hb; subst hb; exact hnf ts hdT
  unfold setFlight
  refine wpAny_bind (wpAny_field he hd h1 ?_)
  rw [if_pos (show (Value.ref T != Value.none) = true from by simp)]
  refine wpAny_setField hT hdT hsz3 (hQ _ ⟨fun b o hbo => (other b fun q => by rw [q, hnT] at hbo; cases hbo).trans (hkb b o hbo), hen,
    hl.of_keeps fun b o hb hnf => ⟨o, (other b (noRecord b o hb hnf)).trans hb, rfl⟩, ?_⟩ fun b o hb hnf => ⟨o.slots, (other b (noRecord b o hb hnf)).trans hb⟩)
  exact ⟨oe, vs, T, _, _, (other e (Ne.symm hTe)).trans he, hcls, hd, h1, hnT, hTe, Heap.get?_update_self _ hT (Obj.isFreed_of_fields (Obj.data_mapFields hdT _)), Obj.data_mapFields hdT _, by simp [hsz3]⟩

/-- it came back out of a loop of this frame -/
theorem came_back {base : Heap} {l : List Env} {e L : Addr} {cls a0 : Value} {env : Env} (hf : env.frame = some L) (hh : Heap.HeldW base l e cls a0 L s.heap)
    {Q : Unit → Shared → Prop} (hE : ∀ h', Heap.HeldW base l e cls a0 L h' → s.heap.UpToSlots h' → Q () { s with heap := h' }) :
    wpAny M A (do if (← field (.ref e) 1) == Value.none then unsupported "frame.own-activation:exception-without-traceback"
                  setFlight (.ref e) env.frame) Q E s := by
  obtain ⟨oe, vs, T, oT, ts, he, hcls, hd, h1, r⟩ := id hh.2.2.2
  refine wpAny_bind (wpAny_field he hd h1 ?_)
  rw [if_neg (by simp), hf]
  exact setFlight_some hh hE

theorem setFlight_off {base : Heap} {l : List Env} {e : Addr} {cls a0 : Value} {Q : Unit → Shared → Prop} (hh : Heap.FlyingW base l e cls a0 s.heap)
    (hQ : ∀ h', Heap.FlyingW base l e cls a0 h' → s.heap.UpToSlots h' → Q () { s with heap := h' }) : wpAny M A (setFlight (.ref e) none) Q E s := by
  obtain ⟨f1, f2, f3, f4⟩ := hh
  exact wpAny_setFlight_noneW f1 f3 f4.at fun h' k1 k2 k3 k4 => hQ h' ⟨k1, f2, k2, k3⟩ fun b o hb hn => ⟨o.slots, k4 b o hb hn⟩
end

theorem FunFrames.on {h h' base : Heap} {l : List Env} (hl : h.FunFrames base l) (k : ∀ b o, b ∈ l.filterMap (·.frame) → h.get? b = some o → ∃ o', h'.get? b = some o' ∧ o'.data = o.data) : h'.FunFrames base l := by
  induction l with
  | nil => trivial
  | cons env rest ih =>
    obtain ⟨hk, ⟨L, o, hf, hn, ho, hd⟩, hr⟩ := hl
    obtain ⟨o', ho', hd'⟩ := k L o (by rw [List.filterMap_cons, hf]; exact List.mem_cons_self ..) ho
    exact ⟨hk, ⟨L, o', hf, hn, ho', fun vs => hd' ▸ hd vs⟩, ih hr fun b o hb e => k b o (by rw [List.filterMap_cons, hf]; exact List.mem_cons_of_mem _ hb) e⟩

theorem overF {A : Around} {outer : List Env} {tg : Expr} {it : Value} {b o body : List Stmt} {env : Env} {k : Result → Sem Fin} {g : Bool} {l : List Value} {p : Pos} (h : A.frames = some outer) :
    (A.over (.forLoop tg it b o env) [.ret k none g l (.func body env) p []]).frames = some (env :: outer) := by
  have e1 : (Code.forLoop tg it b o env).envs = [] := rfl
  have e2 : envsOf ([Frame.ret k none g l (.func body env) p []].map Frame.where_) = [env] := rfl
  unfold Around.over
  show pushEnvs (Code.forLoop tg it b o env).envs (pushEnvs (envsOf ([Frame.ret k none g l (.func body env) p []].map Frame.where_)) A.frames) = _
  rw [e1, e2, h]
  rfl

/-- how the generator ends where the row begins with a nought -/
def gRef (base : Heap) (outer : List Env) (C : Addr) : GenEnd := fun _ s₀ r s₁ => ∃ e t h' tk, r = .error (.ref e) ∧ s₁ = { s₀ with heap := h', toks := tk } ∧ Heap.FlyingW base outer e (.type "ValueError") (.ref t) h' ∧
  ∀ b o, b ≠ C → s₀.heap.get? b = some o → (∀ vs, o.data ≠ .fields vs) → ∃ sl, h'.get? b = some { o with slots := sl }

section
variable {w : World} {A : Around} {mg mb : Str → Option Value} {base : Heap} {C gl a : Addr} {cd : Value} {items : List Value} {ns : List Int} {s : Shared} {outer : List Env} {Y : Protocol}

set_option maxHeartbeats 1000000 in
theorem gen_refuse {m : Str → Option Value} (hh : A.handled = none) (B : Base w mg mb base) (hkb : base.StaysIn s.heap) (hfr : A.frames = some outer) (hfo : s.heap.FunFrames base outer) (hgl : s.heap.IsList gl items.toArray) (hi : IntsAre items (0 :: ns))
    (hC : base.get? C = none) (hglC : gl ≠ C) (hCo : C ∉ outer.filterMap (·.frame)) (hns : s.heap.Ns C m) (hm : m "grouping" = some (.ref gl)) :
    Seg (model P w) A (gRef base outer C) Y 13 s (.func (dBod (stAt 2)) (gEnv C a cd)) ((model P w).den (.func (dBod (stAt 2)) (gEnv C a cd))) [] s := by
  obtain ⟨t0, rest, rfl, _⟩ : ∃ t0 rest, items = .int 0 t0 :: rest ∧ True := by
    cases hi with
    | cons _ _ _ => exact ⟨_, _, rfl, trivial⟩
  refine seg_func ?_
  refine seg_stmt (wpAny_Assign_Name (wpAny_Constant_none (wpAny_storeName_local (env := gEnv C a cd) rfl hns (fun h₁ hn₁ hs₁ => ?_) rfl)))
  have k1 : ∀ b o, b ≠ C → s.heap.get? b = some o → h₁.get? b = some o := fun b o n e => hs₁.extBut b o n e
  have hgl1 : h₁.IsList gl (Value.int 0 t0 :: rest).toArray := hgl.at fun o e => k1 _ o hglC e
  refine seg_execs_cons (seg_For (ldE hn₁ hm (wpAny_pyIter_list hgl1 ?_)))
  dsimp only
  intro p
  generalize hI : h₁.objs.size = I
  have hglI : gl ≠ I := by obtain ⟨o, e, _⟩ := hgl1; exact hI ▸ Nat.ne_of_lt (Heap.lt_size e)
  have hCI : C ≠ I := hI ▸ Nat.ne_of_lt hn₁.lt
  refine seg_forLoop ?_
  have hit : (h₁.push { cls := .type "list_iterator", data := .fields #[.ref gl, .int 0 0] }).IsListIter I gl 0 := ⟨_, by rw [← hI]; exact Heap.get?_push_size _ rfl, rfl, rfl⟩
  refine wpAny_pyNext_list_item (i := 0) (l := gl) (x := .int 0 t0) hit (hgl1.at fun o e => Heap.get?_push_of_some _ e) rfl fun h₂ hit₂ hs₂ => ?_
  refine wpAny_pure ?_
  have k2 : ∀ b o, h₁.get? b = some o → h₂.get? b = some o := fun b o e => hs₂.extBut b o (hI ▸ Nat.ne_of_lt (Heap.lt_size e)) (Heap.get?_push_of_some _ e)
  refine wpAny_assign_Name (wpAny_storeName_local (env := gEnv C a cd) rfl (hn₁.at' fun o e => k2 _ o e) (fun h₃ hn₃ hs₃ => ?_) rfl)
  have k3 : ∀ b o, b ≠ C → s.heap.get? b = some o → h₃.get? b = some o := fun b o n e => hs₃.extBut b o n (k2 b o (k1 b o n e))
  have kb : base.StaysIn h₃ := fun b o e => k3 b o (fun q => by rw [q, hC] at e; cases e) (hkb b o e)
  have B₃ : Base w mg mb h₃ := B.keeps kb
  obtain ⟨tc, hcm⟩ := B₃.cm
  refine seg_execs_cons (seg_If (wpAny_isTrue_Compare1 (ldE hn₃ (by rfl) (ldg B₃ hcm (eq_int (wpAny_truthy_bool ?_))))))
  rw [if_neg (by decide)]
  refine seg_execs_nil ?_
  refine seg_execs_cons (seg_If (wpAny_isTrue_Compare1 (ldE hn₃ (by rfl) (wpAny_Constant_int (eq_int (wpAny_truthy_bool ?_))))))
  rw [if_pos (by rfl)]
  refine seg_execs_cons (seg_If (wpAny_isTrue_Compare1 (ldE hn₃ (by rfl) (wpAny_Constant_none (is_none (wpAny_truthy_bool ?_))))))
  rw [if_pos (by rfl)]
  refine seg_stmt ?_
  refine wpAny_Raise_call PySem.F.excCall_ValueError PySem.F.excRaise_ValueError (over1 hh) rfl ?_
  refine ldb B₃ (by decide) (v := .type "ValueError") (by rfl) ⟨rfl, ?_⟩
  refine Calls.evalArgs_plain (wpAny_items_cons (wpAny_Constant_str (wpAny_items_nil ⟨rfl, by show 1 ≤ 2 ^ 24; decide, fun h₄ e hx => ?_⟩)))
  have fo₃ : h₃.FunFrames base outer := by
    refine FunFrames.on hfo fun b o hb e => ⟨o, k3 b o (fun q => hCo (q ▸ hb)) e, rfl⟩
  have fo : h₃.FunFrames base (gEnv C a cd :: outer) := Heap.FunFrames.cons (by show (dSco (stAt 2)).kind ≠ .module; decide) rfl hn₃ hC fo₃
  refine seg_wrap (wpAny_bind (looks_made (base := base) (h := h₃) (outer := outer) (L := C) ?_ rfl kb fo hx fun h₅ t₅ hh₅ u₅ => wpAny_theTreesLotGoes ?_))
  · exact overF hfr
  refine seg_leaf (.error (.ref e)) ?_
  refine seg_wrap (wpAny_onRaise (wpAny_raise' ?_))
  refine came_back (env := gEnv C a cd) rfl hh₅ fun h₆ hh₆ u₆ => ?_
  refine seg_wrap (leaves_held rfl hh₆ fun h₇ hf₇ u₇ => ?_)
  refine seg_end (.error (.ref e)) ⟨e, t₅, h₇, _, rfl, rfl, hf₇, ?_⟩
  intro b o hb eb hnf
  obtain ⟨sl, e5⟩ := u₅ b o (hx.keeps b o (k3 b o hb eb)) hnf
  obtain ⟨sl6, e6⟩ := u₆ b _ e5 hnf
  obtain ⟨sl7, e7⟩ := u₇ b _ e6 hnf
  exact ⟨sl7, e7⟩
end
end Mine
end

section
open PySem PySem.W PyProof.Rows
set_option maxRecDepth 100000
namespace Mine

/-- a heap without some of its objects -/
def minus (h : Heap) (X : List Addr) : Heap := ⟨h.objs.mapIdx fun i o => if i ∈ X then { o with data := .freed } else o, h.life⟩
theorem minus_in {h : Heap} {X : List Addr} {b : Addr} (hb : b ∈ X) : (minus h X).get? b = none := by
  unfold minus Heap.get?
  simp only [Array.getElem?_mapIdx]
  cases h.objs[b]? with
  | none => rfl
  | some o => simp [hb]
theorem minus_out {h : Heap} {X : List Addr} {b : Addr} (hb : b ∉ X) : (minus h X).get? b = h.get? b := by
  unfold minus Heap.get?
  simp only [Array.getElem?_mapIdx]
  cases h.objs[b]? with
  | none => rfl
  | some o => simp [hb]
theorem minus_stays (h : Heap) (X : List Addr) : (minus h X).StaysIn h := fun b o e => by
  by_cases hb : b ∈ X
  · rw [minus_in hb] at e; cases e
  · rwa [minus_out hb] at e
theorem stays_minus {base h : Heap} {X : List Addr} (k : base.StaysIn h) (hX : ∀ b ∈ X, base.get? b = none) : base.StaysIn (minus h X) := fun b o e => by
  rw [minus_out fun hb => by rw [hX b hb] at e; cases e]; exact k b o e

theorem FunFrames.rebase {h base base' : Heap} {l : List Env} (hl : h.FunFrames base l) (hb : ∀ b ∈ l.filterMap (·.frame), base'.get? b = none) : h.FunFrames base' l := by
  induction l with
  | nil => trivial
  | cons env rest ih =>
    obtain ⟨hk, ⟨L, o, hf, hn, ho, hd⟩, hr⟩ := hl
    exact ⟨hk, ⟨L, o, hf, hb L (by rw [List.filterMap_cons, hf]; exact List.mem_cons_self ..), ho, hd⟩, ih hr fun b h' => hb b (by rw [List.filterMap_cons, hf]; exact List.mem_cons_of_mem _ h')⟩

theorem sub_ve_stop : isSubtype (.type "ValueError") (.type "StopIteration") = pure false := by rw [isSubtype_type]; kernel_rfl

section
variable {w : World} {A : Around} {E : Value → Shared → Prop} {s : Shared}

/-- the next of a generator that raises a ValueError -/
theorem next_raise {a : Addr} {g n : Nat} {gs : GenState} {Rr : GenEnd} {Y : Protocol} {Q : Option Value → Shared → Prop}
    (hl : s.heap.NoLimit) (hroom : A.depth < recursionLimit)
    (hg : s.heap.IsGen a g) (hgs : s.gens[g]? = some gs)
    (hgo : gs.Goes (model P w) A.in1 Rr Y n (.send .none) (s.setGen g .running))
    (hY : ∀ n s₀ v s₁ k, ¬ Y n s₀ v s₁ k)
    (hP : ∀ r s₁, Rr n (s.setGen g .running) r s₁ → ∃ e, r = .error (.ref e) ∧ s₁.heap.IsGen a g ∧ s₁.TypeIs (.ref e) "ValueError" ∧ E (.ref e) (s₁.setGen g .finished)) :
    wpAny (model P w) A (pyNext (.ref a)) Q E s := by
  unfold pyNext
  refine wpAny_bind (wpAny_attempt (wpAny_callSpecial?_slot (name := Str.ofString "__next__") hg.typeIs slot_gen_next
    (wpAny_call_entry slot_gen_next hg.typeIs entry_gen_next ?_ (args_gen_next _))))
  show wpAny _ A.in1 (Builtin.Generator.genWake (.ref a) (.send .none)) _ _ s
  unfold Builtin.Generator.genWake
  refine wpAny_bind (wpAny_holding (wpAny_genNumber hg (wpAny_bind (wpAny_genState hgs ?_))))
  cases gs with
  | running => exact hgo.elim
  | finished => exact hgo.elim
  | _ =>
    refine wpAny_bind (wpAny_roomToWake hl hroom ?_)
    show wpAny _ A.in1 (.resume g (.send .none) [] _) _ _ s
    refine wpAny_resumeQ hgs hgo (fun x s₁ hx => ?_) (fun v s₁ gs' hb hv => (hY _ _ _ _ _ hv).elim)
    obtain ⟨e, rfl, ⟨o, nm, qn, ho, hc, hd, hsl⟩, hT, hE⟩ := hP _ _ hx
    show wpAny _ A.in1 (Builtin.Generator.genLeft (.ref a) (.ref e)) _ _ _
    unfold Builtin.Generator.genLeft Builtin.Generator.madeByALambda
    refine wpAny_bind (wpAny_bind (wpAny_load (s := s₁.setGen g .finished) ho ?_))
    rw [hc, hd]
    refine wpAny_pure ?_
    refine wpAny_bind (wpAny_isInstance (s := s₁.setGen g .finished) hT sub_ve_stop ?_)
    show wpAny _ A.in1 (Builtin.Generator.genEscaped (.ref e)) _ _ _
    unfold Builtin.Generator.genEscaped
    refine wpAny_bind (wpAny_isInstance (s := s₁.setGen g .finished) hT sub_ve_stop ?_)
    show wpAny _ A.in1 (throw (Value.ref e)) _ _ _
    refine wpAny_throw ?_
    refine wpAny_bind (wpAny_isInstance (s := s₁.setGen g .finished) hT sub_ve_stop ?_)
    exact wpAny_throw hE
end
end Mine
end

section
open PySem PySem.W PyProof.Rows
set_option maxRecDepth 100000
namespace Mine

theorem UpToSlots.isList {h h' : Heap} {a : Addr} {items : Array Value} (u : h.UpToSlots h') (x : h.IsList a items) : h'.IsList a items := by
  obtain ⟨o, e, hc, n, hd⟩ := x
  obtain ⟨sl, e'⟩ := u a o e (fun vs q => by rw [hd] at q; cases q)
  exact ⟨_, e', hc, n, hd⟩

section
variable {w : World} {A : Around} {E : Value → Shared → Prop} {s : Shared} {mg mb : Str → Option Value}

set_option maxHeartbeats 1000000 in
theorem marks_refused {a gl : Addr} {items : List Value} {ns : List Int} {base : Heap} {outer : List Env} {Q : Value → Shared → Prop} (K : Below A base outer s.heap) (B : Base w mg mb base) (R : Room A 3 40) (Fn : FnAt base mg "_law_marks" 19 a)
    (hgl : s.heap.IsList gl items.toArray) (hi : IntsAre items (0 :: ns))
    (h : ∀ s' l D t, base.StaysIn s'.heap → s.heap.UpToSlots s'.heap → s'.os = s.os → (AllBare s.gens → AllBare s'.gens) → s'.heap.IsList l #[.ref D, .str "refused" t] → s'.heap.IsList D #[] → Q (.ref l) s') :
    wpAny (model P w) A (call (.ref a) [.ref gl]) Q E s := by
  refine enter (binds := [(("sizes" : Str), Value.ref gl)]) (B.keeps K.stays) R (Fn.keeps K.stays) (fun _ _ _ => by rfl)
    (by intro x hx; simp at hx; subst hx; rfl) (fun cd h₁ F => ?_)
  have R' : Room (A.deeper (envOf "_law_marks" (dSco (stAt 19)) s.heap.objs.size a cd)) 2 37 := R.deeper _
  refine wpAny_execs_cons (wpAny_Assign_Name (wpAny_List (wpAny_items_nil ⟨Nat.zero_le _, ?_⟩)))
  have hL : s.heap.objs.size < h₁.objs.size := F.ns.lt
  refine stS (F.push _) fun h₂ F₂ hs₂ => ?_
  have hDne : h₁.objs.size ≠ s.heap.objs.size := Nat.ne_of_gt hL
  have hpl : h₂.PlainList h₁.objs.size ([] : List Value).toArray := ⟨0, hs₂.extBut _ _ hDne (Heap.get?_push_size _ rfl)⟩
  generalize h₁.objs.size = D at *
  refine wpAny_execs_cons (wpAny_Assign_Name (wpAny_Constant_int (stS F₂ fun h₃ F₃ hs₃ => ?_)))
  have hpl₃ : h₃.PlainList D ([] : List Value).toArray := hpl.at fun o e => hs₃.extBut _ o hDne e
  have kb₃ : base.StaysIn h₃ := fun b o e => F₃.keep b o (K.stays b o e)
  have B₃ : Base w mg mb h₃ := B.keeps kb₃
  have hDlt : D < h₃.objs.size := by obtain ⟨n, e⟩ := hpl₃; exact Heap.lt_size e
  have hLlt : s.heap.objs.size < h₃.objs.size := F₃.ns.lt
  obtain ⟨fg, Fg⟩ := B₃.f2
  refine wpAny_execs_cons (wpAny_Try_except (wpAny_execs_cons (wpAny_For ?_)))
  refine callF2 B₃ Fg (wpAny_items_cons (ld F₃ (by rfl) (wpAny_items_nil ⟨fun _ _ e => e, ?_⟩)))
  refine mkGen (gl := gl) B₃ R' Fg fun cd' h₄ tk t u hn₄ k₄ hsz₄ => ?_
  dsimp only
  generalize hC : h₃.objs.size = C at *
  generalize hH : h₄.push { cls := .type "generator", data := .fields #[.int s.gens.size 0, .str "_grouping_intervals" t, .str "_grouping_intervals" u] } = h₅ at *
  have hG : h₅.IsGen (C + 1) s.gens.size := ⟨_, _, _, by rw [← hH, ← hsz₄]; exact Heap.get?_push_size _ rfl, rfl, rfl, rfl⟩
  have k₅ : ∀ b o, h₄.get? b = some o → h₅.get? b = some o := fun b o e => hH ▸ Heap.get?_push_of_some _ e
  have k₃₅ : ∀ b o, h₃.get? b = some o → h₅.get? b = some o := fun b o e => k₅ b o (k₄ b o e)
  have hsC : s.heap.objs.size < C := hLlt
  refine wpAny_pyIter_gen hG ?_
  -- the frames and what lies beneath them
  generalize hE : envOf "_law_marks" (dSco (stAt 19)) s.heap.objs.size a cd = ev at *
  have hX : ∀ b ∈ outer.filterMap (·.frame), b < s.heap.objs.size := fun b hb => by
    obtain ⟨_, o, e, _⟩ := K.frames.mem hb
    exact Heap.lt_size e
  have hCb : base.get? C = none := by
    cases e : base.get? C with
    | none => rfl
    | some o => have := ltA (Heap.lt_size (K.stays C o e)); omega
  have hLb : base.get? s.heap.objs.size = none := by
    cases e : base.get? s.heap.objs.size with
    | none => rfl
    | some o => have := ltA (Heap.lt_size (K.stays _ o e)); omega
  have fo₅ : h₅.FunFrames base (ev :: outer) := by
    refine Heap.FunFrames.cons (L := s.heap.objs.size) ?_ ?_ (F₃.ns.keeps k₃₅) hLb (K.frames.of_keeps fun b o e _ => ⟨o, k₃₅ b o (F₃.keep b o e), rfl⟩)
    · rw [← hE]; show (dSco (stAt 19)).kind ≠ .module; decide
    · rw [← hE]; rfl
  have hfs : (ev :: outer).filterMap (·.frame) = s.heap.objs.size :: outer.filterMap (·.frame) := by
    rw [List.filterMap_cons, ← hE]; rfl
  obtain ⟨base', hbase'⟩ : ∃ b, b = minus h₅ (C :: (ev :: outer).filterMap (·.frame)) := ⟨_, rfl⟩
  have sb : base.StaysIn base' := by
    rw [hbase']
    refine stays_minus (fun b o e => k₃₅ b o (kb₃ b o e)) fun b hb => ?_
    rcases List.mem_cons.mp hb with rfl | hb
    · exact hCb
    · exact (fo₅.mem hb).1
  have sb₅ : base'.StaysIn h₅ := hbase' ▸ minus_stays _ _
  have fo' : h₅.FunFrames base' (ev :: outer) := FunFrames.rebase fo₅ fun b hb => by rw [hbase']; exact minus_in (List.mem_cons_of_mem _ hb)
  have hG' : base'.IsGen (C + 1) s.gens.size := by
    rw [hbase']
    refine gen_at hG fun o e => ?_
    rw [minus_out]; exact e
    rw [hfs]
    intro hm
    rcases List.mem_cons.mp hm with q | hm
    · exact absurd q (neA (by omega))
    · rcases List.mem_cons.mp hm with q | hm
      · exact absurd q (neA (by omega))
      · have := ltA (hX _ hm); omega
  have hfr : (A.deeper ev).frames = some (ev :: outer) := Around.frames_deeper K.stack
  have hfrm : ev.frame = some s.heap.objs.size := by rw [← hE]; rfl
  have up₅ : s.heap.UpToSlots h₅ := .of_keeps fun b o e => k₃₅ b o (F₃.keep b o e)
  refine codeAny_forLoop_any (fun k s' => s' = { s with gens := s.gens.push (.fresh (.func (dBod (stAt 2)) (gEnv C fg cd'))), toks := tk, heap := h₅ }) ?turn 1 rfl
  rintro k s' rfl
  refine next_raise (n := 13) (gs := .fresh (.func (dBod (stAt 2)) (gEnv C fg cd'))) (Rr := gRef base' (ev :: outer) C) (Y := fun _ _ _ _ _ => False) (B₃.nolimit.keeps k₃₅) R'.here hG (Array.getElem?_push_size ..) ⟨rfl, ?_⟩ (fun _ _ _ _ _ x => x) ?_
  · refine gen_refuse (base := base') (gl := gl) (items := items) (ns := ns) R'.handled (B.keeps sb) sb₅ hfr fo' (hgl.at fun o e => k₃₅ _ o (F₃.keep _ o e)) hi (by rw [hbase']; exact minus_in (List.mem_cons_self ..)) ?_ ?_ (m := fun x : Str => if x = "grouping" then some (.ref gl) else none) (hn₄.keeps k₅) (by rfl)
    · obtain ⟨o, e, _⟩ := hgl
      exact neA (by have := ltA (Heap.lt_size e); omega)
    · rw [hfs]
      intro hm
      rcases List.mem_cons.mp hm with q | hm
      · exact absurd q (neA (by omega))
      · have := ltA (hX _ hm); omega
  rintro r s₁ ⟨e, t₁, h₆, tk₆, rfl, rfl, fl₆, up₆⟩
  refine ⟨e, rfl, gen_at hG' fun o x => fl₆.1 _ o x, ?_, ?_⟩
  · obtain ⟨ob, e1, e2⟩ := fl₆.there
    exact ⟨ob, e1, e2⟩
  -- the loop's frame
  refine wpAny_looks_onW hfr hfrm fl₆ fun h₇ hd₇ up₇ => ?_
  refine came_back hfrm hd₇ fun h₈ hd₈ up₈ => ?_
  refine wpAny_noteFrame_againW hfrm hd₈.2.2.2 ?_
  refine wpAny_landsW hd₈ fun h₉ fl₉ up₉ => ?_
  have B₉ : Base w mg mb h₉ := B.keeps fun b o x => fl₉.1 b o (sb b o x)
  have nt : isSubtype (.type ((Manifest.find? "ValueError").elim "type" fun x => x.metatype)) (.type "tuple") = pure false := by rw [isSubtype_type]; kernel_rfl
  subst hE
  refine wpAny_handleBy_builtin (X := "ValueError") (T := "ValueError") (b := true) PySem.F.isExc_ValueError nt PySem.F.self_ValueError ?_
  refine ldb B₉ (by decide) (v := .type "ValueError") (by rfl) ⟨rfl, ?_, ?_⟩
  · obtain ⟨ob, e1, e2⟩ := fl₉.there
    exact ⟨ob, e1, e2⟩
  rw [if_pos rfl]
  refine setFlight_off fl₉ fun h₁₀ fl₁₀ up₁₀ => ?_
  have upF : ∀ b o, b ≠ C → h₅.get? b = some o → (∀ vs, o.data ≠ .fields vs) → ∃ sl, h₁₀.get? b = some { o with slots := sl } := fun b o hb e hn => by
    obtain ⟨s6, e6⟩ := up₆ b o hb e hn
    obtain ⟨s7, e7⟩ := up₇ b _ e6 hn
    obtain ⟨s8, e8⟩ := up₈ b _ e7 hn
    obtain ⟨s9, e9⟩ := up₉ b _ e8 hn
    obtain ⟨s10, e10⟩ := up₁₀ b _ e9 hn
    exact ⟨s10, e10⟩
  have hn₁₀ : ∃ m, h₁₀.Ns s.heap.objs.size m ∧ m "marks" = some (.ref D) := by
    obtain ⟨o, es, ep, ho, hd, r⟩ := F₃.ns.keeps k₃₅
    obtain ⟨sl, e10⟩ := upF _ o (neA (by omega)) ho (fun vs q => by rw [hd] at q; cases q)
    exact ⟨_, ⟨_, es, ep, e10, hd, r⟩, by rfl⟩
  obtain ⟨m, hn, hm⟩ := hn₁₀
  have hD₁₀ : h₁₀.IsList D #[] := by
    obtain ⟨o, ho, hc, n, hd⟩ := (hpl₃.at fun o e => k₃₅ _ o e).isList
    obtain ⟨sl, e10⟩ := upF _ o (neA (by omega)) ho (fun vs q => by rw [hd] at q; cases q)
    exact ⟨_, e10, hc, n, hd⟩
  refine wpAny_execs_cons (wpAny_Return_some (wpAny_List ?_))
  refine wpAny_items_cons (ldE hn hm (wpAny_items_cons (wpAny_Constant_str (wpAny_items_nil ⟨by show 2 ≤ 2 ^ 24; decide, ?_⟩))))
  refine h _ _ D _ (fun b o x => Heap.get?_push_of_some _ (fl₁₀.1 b o (sb b o x))) (fun b o x hnf => ?_) rfl (fun hb => ?_) ⟨_, Heap.get?_push_size _ rfl, rfl, 0, rfl⟩ (hD₁₀.at fun o e => Heap.get?_push_of_some _ e)
  · obtain ⟨sl, e10⟩ := upF b o (neA (by have := ltA (Heap.lt_size x); omega)) (k₃₅ b o (F₃.keep b o x)) hnf
    exact ⟨sl, Heap.get?_push_of_some _ e10⟩
  · exact allBare_set (s := (Shared.mk h₅ (s.gens.push (.fresh (.func (dBod (stAt 2)) (gEnv C fg cd')))) s.drawn tk s.os).setGen s.gens.size .running) (allBare_set (s := Shared.mk h₅ (s.gens.push (.fresh (.func (dBod (stAt 2)) (gEnv C fg cd')))) s.drawn tk s.os) (hb.push rfl) rfl) rfl
end
end Mine
end

section
open PySem PySem.W PyProof.Rows
set_option maxRecDepth 100000
namespace Mine

section
variable {w : World} {A : Around} {E : Value → Shared → Prop} {s : Shared} {mg mb : Str → Option Value} {env : Env}

theorem ldgE {x : Str} {pos : Pos} {v : Value} {Q : Value → Shared → Prop} (B : Base w mg mb s.heap) (hv : mg x = some v) (h : Q v s) (hg : env.globals = mainGlobals := by rfl)
    (hk : env.scope.kind = .function := by rfl) (hx : env.kindOf x = some .globalImplicit := by rfl) (hd : (x == ("__debug__" : Str)) = false := by decide) :
    wpAny (model P w) A (eval (.Name x pos) env) Q E s :=
  Calls.Name_function_global hk hx (Calls.loadGlobal_global (hg ▸ B.g) hv h) hd

theorem ldbE {x : Str} {pos : Pos} {v : Value} {Q : Value → Shared → Prop} (B : Base w mg mb s.heap) (hf : x ∈ freeNames) (hv : bootBuiltins x = some v) (h : Q v s) (hg : env.globals = mainGlobals := by rfl) (hbn : env.builtins = builtinsNs := by rfl)
    (hk : env.scope.kind = .function := by rfl) (hx : env.kindOf x = some .globalImplicit := by rfl) (hd : (x == ("__debug__" : Str)) = false := by decide)
    (hn : x ≠ "__name__" := by decide) :
    wpAny (model P w) A (eval (.Name x pos) env) Q E s :=
  Calls.Name_function_global hk hx (Calls.loadGlobal_builtin (hg ▸ B.g) (B.free x hf) (hbn ▸ B.b) ((B.bi x hn).trans hv) h) hd

theorem callFE {f : Str} {i : Nat} {fp pos : Pos} {e : Expr} {es : List Expr} {Q : Value → Shared → Prop} {a : Addr} (B : Base w mg mb s.heap) (Fn : FnAt s.heap mg f i a)
    (h : wpAny (model P w) A (spliced (backTo pos (starEach (e :: es) env))) (fun vs s₁ => (∀ b o, s.heap.get? b = some o → s₁.heap.get? b = some o) ∧ wpAny (model P w) A (call (.ref a) vs) Q E s₁) E s)
    (he : starEach (e :: es) env = (false, eval e env) :: starEach es env := by rfl) (hg : env.globals = mainGlobals := by rfl)
    (hk : env.scope.kind = .function := by rfl) (hx : env.kindOf f = some .globalImplicit := by rfl) (hd : (f == ("__debug__" : Str)) = false := by decide) :
    wpAny (model P w) A (eval (.Call (.Name f fp) (e :: es) [] pos) env) Q E s := by
  obtain ⟨o, pm, cd', doc, h1, h2, h3, h4⟩ := Fn
  refine wpAny_Call_NameR (ldgE B h1 ?_ hg hk hx hd)
  rw [back_cons he] at h ⊢
  refine Calls.callWith_function (o := o) (fd := Calls.docDef f (dPar (stAt i)) (dBod (stAt i)) (dSco (stAt i)) pm cd' doc) (Calls.evalArgs_plain (wpAny_mono h (fun vs s₁ h₁ => ?_) fun _ _ e => e))
  exact ⟨⟨h₁.1 _ _ h2, h3⟩, h₁.2⟩

theorem callBE {f : Str} {id : String} {fp pos : Pos} {e : Expr} {es : List Expr} {Q : Value → Shared → Prop} (B : Base w mg mb s.heap)
    (hf : f ∈ freeNames) (hv : bootBuiltins f = some (.builtin id))
    (h : wpAny (model P w) A (spliced (backTo pos (starEach (e :: es) env))) (fun vs s₁ => wpAny (model P w) A (call (.builtin id) vs) Q E s₁) E s)
    (hpl : (backTo pos (starEach (e :: es) env)).any (·.1) = false := by rfl)
    (he : starEach (e :: es) env = (false, eval e env) :: starEach es env := by rfl) (hg : env.globals = mainGlobals := by rfl) (hbn : env.builtins = builtinsNs := by rfl)
    (hk : env.scope.kind = .function := by rfl) (hx : env.kindOf f = some .globalImplicit := by rfl) (hd : (f == ("__debug__" : Str)) = false := by decide)
    (hn : f ≠ "__name__" := by decide) :
    wpAny (model P w) A (eval (.Call (.Name f fp) (e :: es) [] pos) env) Q E s := by
  refine wpAny_Call_NameR (ldbE B hf hv ?_ hg hbn hk hx hd hn)
  rw [back_cons he] at h hpl ⊢
  exact Calls.callWith_builtin hpl (Calls.evalArgs_plain h)

theorem ldCE {x : Str} {p : Pos} {c : Addr} {v : Value} {Q : Value → Shared → Prop} (hv : s.heap.IsCell c (some v)) (h : Q v s) (hc : env.cells.lookup x = some c := by rfl)
    (hk : env.scope.kind = .function := by rfl) (hl : env.kindOf x = some .cell := by rfl) (hd : (x == ("__debug__" : Str)) = false := by decide) :
    wpAny (model P w) A (eval (.Name x p) env) Q E s := wpAny_Name (wpAny_loadName_cell hk hl hc hv h) hd
end

/-- the frame of the ruler: its cells lie behind it -/
def rEnv (L a : Addr) (cd : Value) : Env :=
  { scope := dSco (stAt 21), locals := L, globals := mainGlobals, cells := [("column", L + 4), ("told", L + 3), ("step", L + 2), ("start", L + 1)], qual := "_law_ruler_is_right" ++ ".<locals>.", func := some a, code := cd, frame := some L, builtins := builtinsNs }

structure RF (L : Addr) (h : Heap) (m : Str → Option Value) (c1 c2 c3 c4 : Option Value) : Prop where
  ns : h.Ns L m
  start : h.IsCell (L + 1) c1
  step : h.IsCell (L + 2) c2
  told : h.IsCell (L + 3) c3
  column : h.IsCell (L + 4) c4

theorem RF.upTo {L : Addr} {h h' : Heap} {m : Str → Option Value} {c1 c2 c3 c4 : Option Value} (F : RF L h m c1 c2 c3 c4) (u : h.UpToSlots h') : RF L h' m c1 c2 c3 c4 := by
  have cell : ∀ {c v}, h.IsCell c v → h'.IsCell c v := fun x => by
    obtain ⟨o, e, hd⟩ := x
    obtain ⟨sl, e'⟩ := u _ o e (fun vs q => by rw [hd] at q; cases q)
    exact ⟨_, e', hd⟩
  exact ⟨u.ns F.ns, cell F.start, cell F.step, cell F.told, cell F.column⟩
theorem RF.keeps {L : Addr} {h h' : Heap} {m : Str → Option Value} {c1 c2 c3 c4 : Option Value} (F : RF L h m c1 c2 c3 c4) (k : ∀ b o, h.get? b = some o → h'.get? b = some o) : RF L h' m c1 c2 c3 c4 :=
  F.upTo (.of_keeps k)
theorem RF.push {L : Addr} {h : Heap} {m : Str → Option Value} {c1 c2 c3 c4 : Option Value} (F : RF L h m c1 c2 c3 c4) (o : Obj) : RF L (h.push o) m c1 c2 c3 c4 := F.keeps fun _ _ e => Heap.get?_push_of_some o e

section
variable {w : World} {A : Around} {E : Value → Shared → Prop} {s : Shared} {mg mb : Str → Option Value}

/-- the ruler's call, seen from within -/
theorem enterR {a : Addr} {v1 v2 v3 : Value} {Q : Value → Shared → Prop} {d u : Nat} (B : Base w mg mb s.heap) (R : Room A d u) (Fn : FnAt s.heap mg "_law_ruler_is_right" 21 a)
    (h : ∀ cd h₁ tk, RF s.heap.objs.size h₁ (fun x => if x = "firsts" then some v3 else if x = "tables" then some v2 else if x = "n" then some v1 else none) none none none none → (∀ b o, s.heap.get? b = some o → h₁.get? b = some o) →
      wpAny (model P w) (A.deeper (rEnv s.heap.objs.size a cd)) (execs (dBod (stAt 21)) (rEnv s.heap.objs.size a cd))
        (fun f s' => Q (match f with | .ret v => v | _ => .none) s') (fun _ _ => False) { s with heap := h₁, toks := tk }) :
    wpAny (model P w) A (call (.ref a) [v1, v2, v3]) Q E s := by
  obtain ⟨o, pm, cd, doc, h1, h2, h3, h4⟩ := Fn
  refine wpAny_call (codeAny_call_cells (binds := [(("n" : Str), v1), ("tables", v2), ("firsts", v3)]) R.here h2 h3 B.nolimit h4 rfl (by rfl) rfl ?_ (fun s₁ x => ?_))
  · intro x hx
    simp at hx
    rcases hx with rfl | rfl | rfl <;> exact .inl (by rfl)
  · obtain ⟨⟨⟨h₁, tk, rfl⟩, hns, hk, hf⟩, hc, _, _⟩ := x
    refine calm (wpAny_mono (h cd h₁ tk ⟨hns, hc "start" _ (by rfl), hc "step" _ (by rfl), hc "told" _ (by rfl), hc "column" _ (by rfl)⟩ hk) (fun f s' q => q) fun _ _ q => q)
end
end Mine
end

section
open PySem PySem.W PyProof.Rows
set_option maxRecDepth 100000
namespace Mine

theorem eqA {a b : Nat} (h : a = b) : a = b := h
theorem off1 (L : Nat) : L + 1 ≠ L := by omega
theorem off2 (L : Nat) : L + 2 ≠ L := by omega
theorem off3 (L : Nat) : L + 3 ≠ L := by omega
theorem off4 (L : Nat) : L + 4 ≠ L := by omega

/-- what the ruler has left as it was since it began -/
structure Kr (base : Heap) (s₀ s : Shared) : Prop where
  low : base.StaysIn s₀.heap
  stays : base.StaysIn s.heap
  up : s₀.heap.UpToSlots s.heap
  os : s.os = s₀.os
  bare : AllBare s₀.gens → AllBare s.gens

theorem Kr.kp {base : Heap} {s₀ s s' : Shared} (x : Kr base s₀ s) (y : Kp s s') : Kr base s₀ s' :=
  ⟨x.low, fun b o e => y.keep b o (x.stays b o e), x.up.trans (.of_keeps y.keep), y.os.trans x.os, fun h => y.bare (x.bare h)⟩
theorem Kr.heap {base : Heap} {s₀ s : Shared} (x : Kr base s₀ s) {h' : Heap} {tk : Nat} (hk : ∀ b o, b < s₀.heap.objs.size → s.heap.get? b = some o → h'.get? b = some o) : Kr base s₀ { s with heap := h', toks := tk } :=
  ⟨x.low, fun b o e => hk b o (Heap.lt_size (x.low b o e)) (x.stays b o e), fun b o e hn => let ⟨sl, e1⟩ := x.up b o e hn; ⟨sl, hk b _ (Heap.lt_size e) e1⟩, x.os, x.bare⟩

/-- the ints that the ruler's names hold -/
def rdR (m : Str → Option Value) (c1 c2 : Option Value) : Str → Int → Prop := fun x n =>
  ((∃ t, m x = some (.int n t)) ∧ (dSco (stAt 21)).names.lookup x = some .local ∧ (x == ("__debug__" : Str)) = false) ∨ (x = "start" ∧ ∃ t, c1 = some (.int n t)) ∨ (x = "step" ∧ ∃ t, c2 = some (.int n t))
theorem EvR.locR {m : Str → Option Value} {c1 c2 : Option Value} {x p n t} (hm : m x = some (.int n t)) (hl : (dSco (stAt 21)).names.lookup x = some .local) (hd : (x == ("__debug__" : Str)) = false) : EvR (rdR m c1 c2) (.Name x p) (.i n) :=
  .name (.inl ⟨⟨t, hm⟩, hl, hd⟩)
theorem EvR.startR {m : Str → Option Value} {c2 : Option Value} {p : Pos} {n : Int} {t : Tok} : EvR (rdR m (some (.int n t)) c2) (.Name "start" p) (.i n) := .name (.inr (.inl ⟨rfl, t, rfl⟩))
theorem EvR.stepR {m : Str → Option Value} {c1 : Option Value} {p : Pos} {n : Int} {t : Tok} : EvR (rdR m c1 (some (.int n t))) (.Name "step" p) (.i n) := .name (.inr (.inr ⟨rfl, t, rfl⟩))

section
variable {w : World} {A : Around} {E : Value → Shared → Prop} {s : Shared} {mg mb : Str → Option Value} {L a : Addr} {cd : Value} {m : Str → Option Value} {c1 c2 c3 c4 : Option Value}

theorem rdR_loads (F : RF L s.heap m c1 c2 c3 c4) : ∀ x p n tk (Q : Value → Shared → Prop), rdR m c1 c2 x n → (∀ t, Q (.int n t) { s with toks := tk }) →
    wpAny (model P w) A (eval (.Name x p) (rEnv L a cd)) Q E { s with toks := tk } := by
  intro x p n tk Q hr h
  rcases hr with ⟨⟨t, hm⟩, hl, hd⟩ | ⟨rfl, t, rfl⟩ | ⟨rfl, t, rfl⟩
  · exact ldE (s := { s with toks := tk }) F.ns hm (h t) (by rfl) hl hd
  · exact ldCE (s := { s with toks := tk }) F.start (h t)
  · exact ldCE (s := { s with toks := tk }) F.step (h t)

theorem Rv.int {e : Expr} {n : Int} {Q : Value → Shared → Prop} (F : RF L s.heap m c1 c2 c3 c4) (x : EvR (rdR m c1 c2) e (.i n)) (h : ∀ t tk, Q (.int n t) { s with toks := tk }) :
    wpAny (model P w) A (eval e (rEnv L a cd)) Q E s := (x.both s (rdR_loads F)).1 Q fun r tk hr => by obtain ⟨t, rfl⟩ := hr; exact h t tk
theorem Rv.test {e : Expr} {c : Bool} {Q : Bool → Shared → Prop} (F : RF L s.heap m c1 c2 c3 c4) (x : EvR (rdR m c1 c2) e (.b c)) (h : ∀ tk, Q c { s with toks := tk }) :
    wpAny (model P w) A (isTrue e (rEnv L a cd) (eval e (rEnv L a cd))) Q E s := (x.both s (rdR_loads F)).2 Q c rfl h

theorem ldR {x : Str} {p : Pos} {v : Value} {Q : Value → Shared → Prop} (F : RF L s.heap m c1 c2 c3 c4) (hv : m x = some v) (h : Q v s) (hl : (rEnv L a cd).kindOf x = some .local := by rfl) (hd : (x == ("__debug__" : Str)) = false := by decide) :
    wpAny (model P w) A (eval (.Name x p) (rEnv L a cd)) Q E s := ldE F.ns hv h (by rfl) hl hd

/-- a store to a local name of the ruler -/
theorem stR {base : Heap} {s₀ : Shared} {x : Str} {v : Value} {Q : Unit → Shared → Prop} (hL : L = s₀.heap.objs.size) (F : RF L s.heap m c1 c2 c3 c4) (K : Kr base s₀ s)
    (h : ∀ h' tk, RF L h' (fun y => if y = x then some v else m y) c1 c2 c3 c4 → Kr base s₀ { s with heap := h', toks := tk } → (∀ b o, b ≠ L → s.heap.get? b = some o → h'.get? b = some o) → Q () { s with heap := h', toks := tk })
    (hl : (rEnv L a cd).kindOf x = some .local := by rfl) : wpAny (model P w) A (storeName (rEnv L a cd) x v) Q E s :=
  wpAny_storeName_local hl F.ns (fun h' hn hs => h h' _
    ⟨hn, F.start.sameBut hs (off1 L), F.step.sameBut hs (off2 L), F.told.sameBut hs (off3 L), F.column.sameBut hs (off4 L)⟩
    (K.heap fun b o hb e => hs.extBut b o (neA (by show b ≠ L; rw [hL]; exact Nat.ne_of_lt hb)) e) (fun b o hb e => hs.extBut b o hb e)) (by rfl)

theorem stStart {base : Heap} {s₀ : Shared} {v : Value} {Q : Unit → Shared → Prop} (hL : L = s₀.heap.objs.size) (F : RF L s.heap m c1 c2 c3 c4) (K : Kr base s₀ s)
    (h : ∀ h', RF L h' m (some v) c2 c3 c4 → Kr base s₀ { s with heap := h' } → (∀ b o, b ≠ L + 1 → s.heap.get? b = some o → h'.get? b = some o) → Q () { s with heap := h' }) :
    wpAny (model P w) A (storeName (rEnv L a cd) "start" v) Q E s :=
  wpAny_storeName_cell (by rfl) (by rfl) (c := L + 1) (by rfl) F.start fun h' hc hs => h h'
    ⟨F.ns.sameBut hs (neA (by omega)), hc, F.step.sameBut hs (neA (by omega)), F.told.sameBut hs (neA (by omega)), F.column.sameBut hs (neA (by omega))⟩
    (K.heap fun b o hb e => hs.extBut b o (neA (by have := ltA hb; have := eqA hL; omega)) e) (fun b o hb e => hs.extBut b o hb e)
theorem stStep {base : Heap} {s₀ : Shared} {v : Value} {Q : Unit → Shared → Prop} (hL : L = s₀.heap.objs.size) (F : RF L s.heap m c1 c2 c3 c4) (K : Kr base s₀ s)
    (h : ∀ h', RF L h' m c1 (some v) c3 c4 → Kr base s₀ { s with heap := h' } → (∀ b o, b ≠ L + 2 → s.heap.get? b = some o → h'.get? b = some o) → Q () { s with heap := h' }) :
    wpAny (model P w) A (storeName (rEnv L a cd) "step" v) Q E s :=
  wpAny_storeName_cell (by rfl) (by rfl) (c := L + 2) (by rfl) F.step fun h' hc hs => h h'
    ⟨F.ns.sameBut hs (neA (by omega)), F.start.sameBut hs (neA (by omega)), hc, F.told.sameBut hs (neA (by omega)), F.column.sameBut hs (neA (by omega))⟩
    (K.heap fun b o hb e => hs.extBut b o (neA (by have := ltA hb; have := eqA hL; omega)) e) (fun b o hb e => hs.extBut b o hb e)
theorem stTold {base : Heap} {s₀ : Shared} {v : Value} {Q : Unit → Shared → Prop} (hL : L = s₀.heap.objs.size) (F : RF L s.heap m c1 c2 c3 c4) (K : Kr base s₀ s)
    (h : ∀ h', RF L h' m c1 c2 (some v) c4 → Kr base s₀ { s with heap := h' } → (∀ b o, b ≠ L + 3 → s.heap.get? b = some o → h'.get? b = some o) → Q () { s with heap := h' }) :
    wpAny (model P w) A (storeName (rEnv L a cd) "told" v) Q E s :=
  wpAny_storeName_cell (by rfl) (by rfl) (c := L + 3) (by rfl) F.told fun h' hc hs => h h'
    ⟨F.ns.sameBut hs (neA (by omega)), F.start.sameBut hs (neA (by omega)), F.step.sameBut hs (neA (by omega)), hc, F.column.sameBut hs (neA (by omega))⟩
    (K.heap fun b o hb e => hs.extBut b o (neA (by have := ltA hb; have := eqA hL; omega)) e) (fun b o hb e => hs.extBut b o hb e)
theorem stColumn {base : Heap} {s₀ : Shared} {v : Value} {Q : Unit → Shared → Prop} (hL : L = s₀.heap.objs.size) (F : RF L s.heap m c1 c2 c3 c4) (K : Kr base s₀ s)
    (h : ∀ h', RF L h' m c1 c2 c3 (some v) → Kr base s₀ { s with heap := h' } → (∀ b o, b ≠ L + 4 → s.heap.get? b = some o → h'.get? b = some o) → Q () { s with heap := h' }) :
    wpAny (model P w) A (storeName (rEnv L a cd) "column" v) Q E s :=
  wpAny_storeName_cell (by rfl) (by rfl) (c := L + 4) (by rfl) F.column fun h' hc hs => h h'
    ⟨F.ns.sameBut hs (neA (by omega)), F.start.sameBut hs (neA (by omega)), F.step.sameBut hs (neA (by omega)), F.told.sameBut hs (neA (by omega)), hc⟩
    (K.heap fun b o hb e => hs.extBut b o (neA (by have := ltA hb; have := eqA hL; omega)) e) (fun b o hb e => hs.extBut b o hb e)
end
end Mine
end

section
open PySem PySem.W PyProof.Rows
set_option maxRecDepth 100000
namespace Mine
local macro_rules | `(tactic| w_left) => `(tactic| repeat' (first | exact EvR.cint | exact EvR.cbool | exact EvR.startR | exact EvR.stepR | (refine' EvR.locR (by rfl) (by rfl) (by decide)) | refine' EvR.add ?_ ?_ | refine' EvR.sub ?_ ?_ | refine' EvR.mul ?_ ?_ ?_ | refine' EvR.div ?_ ?_ ?_ ?_ | refine' EvR.mod ?_ ?_ ?_ | refine' EvR.neg ?_ | refine' EvR.eq ?_ ?_ | refine' EvR.lt ?_ ?_ | refine' EvR.gt ?_ ?_ | (refine' EvR.locR (by assumption) (by rfl) (by decide))))

theorem bits_small {b : Int} (h0 : 0 < b) (h : b < 1073741824) : Builtin.Int.intBits b ≤ 64 := by
  unfold Builtin.Int.intBits
  rw [if_neg (by intro q; have := eq_of_beq q; omega)]
  have h1 : b.natAbs ≠ 0 := by omega
  have h2 : b.natAbs.log2 < 30 := (Nat.log2_lt h1).mpr (by show b.natAbs < 1073741824; omega)
  omega

section
variable {w : World} {A : Around} {E : Value → Shared → Prop} {s : Shared} {env : Env}
/-- l[i] of a list, whatever stands for l -/
theorem itemL {value slice : Expr} {pos : Pos} {Q : Value → Shared → Prop}
    (h : wpAny (model P w) A (eval value env) (fun o s₁ => wpAny (model P w) A (eval slice env) (fun i s₂ => ∃ l items k u x, o = .ref l ∧ i = .int k u ∧ s₂.heap.IsList l items ∧ 0 ≤ k ∧ k < 2 ^ 63 ∧ items[k.toNat]? = some x ∧ Q x s₂) E s₁) E s)
    (hs : ∀ o i, subscripted slice false o i = operate [o, i] (getItem o i) := by intro _ _; rfl) :
    wpAny (model P w) A (eval (.Subscript value slice pos) env) Q E s := by
  refine Subscript_ (wpAny_mono h (fun o s₁ h₁ => wpAny_mono h₁ (fun i s₂ h₂ => ?_) fun _ _ x => x) fun _ _ x => x)
  obtain ⟨l, items, k, u, x, rfl, rfl, hl, h0, hf, hx, hq⟩ := h₂
  unfold subscriptTail
  refine wpAny_bind ?_
  rw [getitemInPython_of_ne hl.typeIs.not_modules]
  refine wpAny_bind (wpAny_specialOf hl.typeIs slot_list_getitem.lookup ?_)
  have fin : wpAny (model P w) A (operate [.ref l, .int k u] (getItem (.ref l) (.int k u))) (fun r s₃ => wpAny (model P w) A (letTemporaryGo value (.ref l) r >>= fun _ => pure r) Q E s₃) E s₂ :=
    wpAny_operating (wpAny_getItem_list hl h0 hf hx (wpAny_bind (wpAny_letTemporaryGo (wpAny_pure hq))))
  rw [← hs (.ref l) (.int k u)] at fin
  exact wpAny_pure (wpAny_bind fin)
end

def rEnding (n : Int) : Int := n.fmod 4
def rPlace (n : Int) : Int := (n.fdiv 4).fmod 36
def rRest (n : Int) : Int := n.fdiv 4608
def rNear (n : Int) : Int := 1 + (rRest n).fmod 48
def rWide (n : Int) : Int := if (((rRest n).fdiv 48).fmod 2 == 0) = true then 1 + ((rRest n).fdiv 96).fmod 48 else 16384 * (1 + ((rRest n).fdiv 96).fmod 4) - 8 + ((rRest n).fdiv 384).fmod 17
def firstsL : List Int := allRuns.flatten.map (·.1)
def rFirst (n : Int) : Int := if decide (rPlace n < 35) = true then firstsL.getD (rPlace n).toNat 0 - (n.fdiv 144).fmod 32 else 128 + (rRest n).fmod 1113984

section
variable {w : World} {A : Around} {E : Value → Shared → Prop} {s s₀ : Shared} {mg mb : Str → Option Value} {L a : Addr} {cd : Value} {m : Str → Option Value} {base : Heap}

/-- the names that the ruler has bound by its first statements -/
structure RA (n : Int) (T : Addr) (m : Str → Option Value) : Prop where
  ending : ∃ t, m "ending" = some (.int (rEnding n) t)
  near : ∃ t, m "near" = some (.int (rNear n) t)
  wide : ∃ t, m "wide" = some (.int (rWide n) t)
  first : ∃ t, m "first" = some (.int (rFirst n) t)
  tables : m "tables" = some (.ref T)

set_option maxHeartbeats 1000000 in
theorem ruler_A {n : Int} {tn : Tok} {fA T : Addr} {fvs : List Value} {Q : Flow → Shared → Prop} (hL : L = s₀.heap.objs.size) (hfA : base.IsList fA fvs.toArray) (hfi : IntsAre fvs firstsL)
    (F : RF L s.heap m none none none none) (K : Kr base s₀ s) (m1 : m "n" = some (.int n tn)) (m2 : m "firsts" = some (.ref fA)) (m3 : m "tables" = some (.ref T))
    (next : ∀ s' m', RF L s'.heap m' none none none none → Kr base s₀ s' → RA n T m' → wpAny (model P w) A (execs ((dBod (stAt 21)).drop 6) (rEnv L a cd)) Q E s') :
    wpAny (model P w) A (execs (dBod (stAt 21)) (rEnv L a cd)) Q E s := by
  refine wpAny_execs_cons (wpAny_Assign_Name (Rv.int F (n := rEnding n) ?_ fun t1 tk1 => ?_))
  · unfold rEnding; w_left <;> decide
  refine stR hL F (K.heap fun _ _ _ e => e) fun h1 tk1 F K _ => ?_
  refine wpAny_execs_cons (wpAny_Assign_Name (Rv.int F (n := rPlace n) ?_ fun t2 tk2 => ?_))
  · unfold rPlace; w_left <;> decide
  refine stR hL F (K.heap fun _ _ _ e => e) fun h2 tk2 F K _ => ?_
  refine wpAny_execs_cons (wpAny_Assign_Name (Rv.int F (n := rRest n) ?_ fun t3 tk3 => ?_))
  · unfold rRest; w_left <;> decide
  refine stR hL F (K.heap fun _ _ _ e => e) fun h3 tk3 F K _ => ?_
  refine wpAny_execs_cons (wpAny_Assign_Name (Rv.int F (n := rNear n) ?_ fun t4 tk4 => ?_))
  · unfold rNear; w_left <;> decide
  refine stR hL F (K.heap fun _ _ _ e => e) fun h4 tk4 F K _ => ?_
  refine wpAny_execs_cons (wpAny_If (Rv.test F (c := ((rRest n).fdiv 48).fmod 2 == 0) ?_ fun tk5 => ?_))
  · w_left <;> decide
  have last : ∀ (s : Shared) (m : Str → Option Value), RF L s.heap m none none none none → Kr base s₀ s → (∃ t, m "n" = some (.int n t)) → m "firsts" = some (.ref fA) → m "tables" = some (.ref T) → (∃ t, m "ending" = some (.int (rEnding n) t)) →
      (∃ t, m "near" = some (.int (rNear n) t)) → (∃ t, m "wide" = some (.int (rWide n) t)) → (∃ t, m "place" = some (.int (rPlace n) t)) → (∃ t, m "rest" = some (.int (rRest n) t)) →
      wpAny (model P w) A (execs ((dBod (stAt 21)).drop 5) (rEnv L a cd)) Q E s := by
    intro s m F K q1 q2 q3 q4 q5 q6 q7 q8
    obtain ⟨tn, q1⟩ := q1
    obtain ⟨tp, q7⟩ := q7
    obtain ⟨tr, q8⟩ := q8
    refine wpAny_execs_cons (wpAny_If (Rv.test F (c := decide (rPlace n < 35)) ?_ fun tk5 => ?_))
    · w_left
    have p0 : 0 ≤ rPlace n := by unfold rPlace; rw [Int.fmod_eq_emod_of_nonneg _ (by decide)]; exact Int.emod_nonneg _ (by decide)
    cases c : decide (rPlace n < 35) with
    | true =>
      rw [if_pos rfl]
      have hlt : rPlace n < 35 := of_decide_eq_true c
      refine wpAny_execs_cons (wpAny_Assign_Name (wpAny_BinOp (itemL ?_)))
      refine ldR (s := { s with toks := tk5 }) F q2 (ldR (s := { s with toks := tk5 }) F q7 ?_)
      have hfl : fvs.length = 35 := by rw [hfi.length]; decide
      obtain ⟨tf, hf, _⟩ := ints_at hfi (i := (rPlace n).toNat) (by omega)
      refine ⟨fA, fvs.toArray, rPlace n, tp, .int (firstsL.getD (rPlace n).toNat 0) tf, rfl, rfl, hfA.at fun o e => K.stays _ o e, p0, by omega, by simpa using hf, ?_⟩
      refine Rv.int (s := { s with toks := tk5 }) F (n := (n.fdiv 144).fmod 32) ?_ fun t6 tk6 => ?_
      · w_left <;> decide
      refine sub_int' ?_
      have e : firstsL.getD (rPlace n).toNat 0 - (n.fdiv 144).fmod 32 = rFirst n := by unfold rFirst; rw [c, if_pos rfl]
      rw [e]
      refine stR hL F (K.heap fun _ _ _ e => e) fun h6 tk6 F K _ => ?_
      exact wpAny_execs_nil (next _ _ F K ⟨q4, q5, q6, ⟨_, by rfl⟩, q3⟩)
    | false =>
      rw [if_neg Bool.false_ne_true]
      refine wpAny_execs_cons (wpAny_Assign_Name (Rv.int (s := { s with toks := tk5 }) F (n := rFirst n) ?_ fun t6 tk6 => ?_))
      · unfold rFirst; rw [c, if_neg Bool.false_ne_true]; w_left <;> decide
      refine stR hL F (K.heap fun _ _ _ e => e) fun h6 tk6 F K _ => ?_
      exact wpAny_execs_nil (next _ _ F K ⟨q4, q5, q6, ⟨_, by rfl⟩, q3⟩)
  cases c : (((rRest n).fdiv 48).fmod 2 == 0) with
  | true =>
    rw [if_pos rfl]
    refine wpAny_execs_cons (wpAny_Assign_Name (Rv.int (s := { s with heap := h4, toks := tk5 }) F (n := rWide n) ?_ fun t6 tk6 => ?_))
    · unfold rWide; rw [c, if_pos rfl]; w_left <;> decide
    refine stR hL F (K.heap fun _ _ _ e => e) fun h6 tk6 F K _ => ?_
    exact wpAny_execs_nil (last _ _ F K ⟨_, m1⟩ m2 m3 ⟨_, by rfl⟩ ⟨_, by rfl⟩ ⟨_, by rfl⟩ ⟨_, by rfl⟩ ⟨_, by rfl⟩)
  | false =>
    rw [if_neg Bool.false_ne_true]
    refine wpAny_execs_cons (wpAny_Assign_Name (Rv.int (s := { s with heap := h4, toks := tk5 }) F (n := rWide n) ?_ fun t6 tk6 => ?_))
    · unfold rWide; rw [c, if_neg Bool.false_ne_true]; w_left <;> first | decide | skip
      rw [Int.fmod_eq_emod_of_nonneg _ (by decide)]
      exact bits_small (by have := Int.emod_nonneg ((rRest n).fdiv 96) (show (4 : Int) ≠ 0 by decide); omega) (by have := Int.emod_lt_of_pos ((rRest n).fdiv 96) (show (0 : Int) < 4 by decide); omega)
    refine stR hL F (K.heap fun _ _ _ e => e) fun h6 tk6 F K _ => ?_
    exact wpAny_execs_nil (last _ _ F K ⟨_, m1⟩ m2 m3 ⟨_, by rfl⟩ ⟨_, by rfl⟩ ⟨_, by rfl⟩ ⟨_, by rfl⟩ ⟨_, by rfl⟩)
end
end Mine
end

section
open PySem PySem.W PyProof.Rows
set_option maxRecDepth 100000
namespace Mine
local macro_rules | `(tactic| w_left) => `(tactic| repeat' (first | exact EvR.cint | exact EvR.cbool | exact EvR.startR | exact EvR.stepR | (refine' EvR.locR (by rfl) (by rfl) (by decide)) | refine' EvR.add ?_ ?_ | refine' EvR.sub ?_ ?_ | refine' EvR.mul ?_ ?_ ?_ | refine' EvR.div ?_ ?_ ?_ ?_ | refine' EvR.mod ?_ ?_ ?_ | refine' EvR.neg ?_ | refine' EvR.eq ?_ ?_ | refine' EvR.lt ?_ ?_ | refine' EvR.gt ?_ ?_ | (refine' EvR.locR (by assumption) (by rfl) (by decide))))

def menuOf (f nr wd : Int) : List (List Int) := [[f, nr, wd, 0, 5], [f, nr, wd, 127, 9], [f, nr, wd], [f, nr, 0, wd]]
def rSizes (n : Int) : List Int := (menuOf (rFirst n) (rNear n) (rWide n)).getD (rEnding n).toNat []
def rStart (n : Int) : Int := rFirst n + rNear n
def rStep (n : Int) : Int := if (rEnding n == 3) = true then rNear n else rWide n
def rTop (n : Int) : Int := if [0, 3].any (· == rEnding n) = true then 10 else 1
def rLast (n : Int) : Int := if (1114111 - rStart n).fdiv (rStep n) < rTop n then (1114111 - rStart n).fdiv (rStep n) else rTop n
def rRungs (n : Int) : List Int := (rangeInts 0 1 (rLast n + 1).toNat).map fun r => rStart n + rStep n * r
def rMarks (n : Int) : List Int := rFirst n :: rRungs n

theorem fmod_range (a b : Int) (h : 0 < b) : 0 ≤ a.fmod b ∧ a.fmod b < b := by
  rw [Int.fmod_eq_emod_of_nonneg _ (by omega)]
  exact ⟨Int.emod_nonneg _ (by omega), Int.emod_lt_of_pos _ h⟩
theorem ending_range (n : Int) : 0 ≤ rEnding n ∧ rEnding n < 4 := fmod_range _ _ (by decide)
theorem near_range (n : Int) : 1 ≤ rNear n ∧ rNear n ≤ 48 := by unfold rNear; have := fmod_range (rRest n) 48 (by decide); omega
theorem wide_range (n : Int) : 1 ≤ rWide n ∧ rWide n ≤ 65544 := by
  unfold rWide
  have h1 := fmod_range ((rRest n).fdiv 96) 48 (by decide)
  have h2 := fmod_range ((rRest n).fdiv 96) 4 (by decide)
  have h3 := fmod_range ((rRest n).fdiv 384) 17 (by decide)
  split <;> omega
theorem wide_not127 (n : Int) : rWide n ≠ 127 := by
  unfold rWide
  have h1 := fmod_range ((rRest n).fdiv 96) 48 (by decide)
  have h2 := fmod_range ((rRest n).fdiv 96) 4 (by decide)
  have h3 := fmod_range ((rRest n).fdiv 384) 17 (by decide)
  split <;> omega
theorem firsts_ok : ∀ x ∈ firstsL, (x = 32 ∨ 173 ≤ x) ∧ x ≤ 1114110 := by decide
theorem place_range (n : Int) : 0 ≤ rPlace n ∧ rPlace n < 36 := fmod_range _ _ (by decide)
theorem first_range (n : Int) : 1 ≤ rFirst n ∧ rFirst n ≤ 1114111 ∧ rFirst n ≠ 127 := by
  unfold rFirst
  have h1 := fmod_range (n.fdiv 144) 32 (by decide)
  have h2 := fmod_range (rRest n) 1113984 (by decide)
  have hp := place_range n
  split
  · rename_i h
    have hl : (rPlace n).toNat < firstsL.length := by
      have : firstsL.length = 35 := by decide
      have := of_decide_eq_true h
      omega
    have hm : firstsL.getD (rPlace n).toNat 0 ∈ firstsL := by
      simp only [List.getD, List.getElem?_eq_getElem hl, Option.getD_some]
      exact List.getElem_mem _
    have := firsts_ok _ hm
    generalize firstsL.getD (rPlace n).toNat 0 = x at *
    omega
  · omega
theorem start_range (n : Int) : 2 ≤ rStart n ∧ rStart n ≤ 1114159 := by unfold rStart; have := near_range n; have := first_range n; omega
theorem step_range (n : Int) : 1 ≤ rStep n ∧ rStep n ≤ 65544 := by unfold rStep; have := near_range n; have := wide_range n; split <;> omega
theorem top_range (n : Int) : rTop n = 10 ∨ rTop n = 1 := by unfold rTop; split <;> simp
theorem last_range (n : Int) : -48 ≤ rLast n ∧ rLast n ≤ 10 := by
  have h1 := start_range n
  have h2 := step_range n
  have h3 : -48 ≤ (1114111 - rStart n).fdiv (rStep n) := by
    rw [Int.fdiv_eq_ediv_of_nonneg _ (by omega)]
    refine Int.le_ediv_of_mul_le (by omega) ?_
    have := Int.mul_le_mul_of_nonneg_left (show (1 : Int) ≤ rStep n by omega) (show (0 : Int) ≤ 48 by decide)
    omega
  unfold rLast
  rcases top_range n with h | h <;> rw [h] <;> split <;> omega

section
variable {w : World} {A : Around} {E : Value → Shared → Prop} {s s₀ : Shared} {mg mb : Str → Option Value} {L a : Addr} {cd : Value} {m : Str → Option Value} {base : Heap} {c1 c2 c3 c4 : Option Value}

inductive EvAll (rd : Str → Int → Prop) : List Expr → List Int → Prop
  | nil : EvAll rd [] []
  | cons {e n es ns} : EvR rd e (.i n) → EvAll rd es ns → EvAll rd (e :: es) (n :: ns)

theorem plain_star {rd : Str → Int → Prop} {e : Expr} {v : PV} {es : List Expr} {env : Env} (x : EvR rd e v) : starEach (e :: es) env = (false, eval e env) :: starEach es env := by cases x <;> rfl

theorem ints_itemsR {pos : Pos} : ∀ (es : List Expr) (ns : List Int) (s : Shared) (Q : List Value → Shared → Prop), RF L s.heap m c1 c2 c3 c4 → EvAll (rdR m c1 c2) es ns →
    (∀ vs tk, IntsAre vs ns → Q vs { s with toks := tk }) → wpAny (model P w) A (spliced (backTo pos (starEach es (rEnv L a cd)))) Q E s
  | _, _, s, Q, F, .nil, h => wpAny_items_nil (h [] s.toks .nil)
  | _, _, s, Q, F, .cons x r, h => wpAny_items_cons (Rv.int F x fun t tk => ints_itemsR _ _ { s with toks := tk } _ F r fun vs tk' hv => h _ tk' (.cons _ _ hv)) (plain_star x)

theorem ints_listR {pos : Pos} {es : List Expr} {ns : List Int} {Q : Value → Shared → Prop} (F : RF L s.heap m c1 c2 c3 c4) (x : EvAll (rdR m c1 c2) es ns) (hn : ns.length ≤ 4096)
    (h : ∀ vs tk, IntsAre vs ns → Q (.ref s.heap.objs.size) { s with heap := s.heap.push { cls := .type "list", data := .seq vs.toArray }, toks := tk }) : wpAny (model P w) A (eval (.List es pos) (rEnv L a cd)) Q E s :=
  wpAny_List (ints_itemsR _ _ _ _ F x fun vs tk hv => ⟨by rw [hv.length]; show _ ≤ 2 ^ 24; omega, h vs tk hv⟩)

/-- what the ruler has made by its statement 10 -/
structure RB (n : Int) (L T : Addr) (m : Str → Option Value) (h : Heap) (sA mA : Addr) (vs ms : List Value) : Prop where
  sizes : m "sizes" = some (.ref sA)
  slist : h.IsList sA vs.toArray
  sints : IntsAre vs (rSizes n)
  soff : L + 5 ≤ sA
  marks : m "marks" = some (.ref mA)
  mlist : h.IsList mA ms.toArray
  mints : IntsAre ms (rMarks n)
  moff : L + 5 ≤ mA
  first : ∃ t, m "first" = some (.int (rFirst n) t)
  last : ∃ t, m "last" = some (.int (rLast n) t)
  tables : m "tables" = some (.ref T)

theorem RF.top (F : RF L s.heap m c1 c2 c3 c4) : L + 5 ≤ s.heap.objs.size := by
  obtain ⟨o, e, _⟩ := F.column
  exact Heap.lt_size e

theorem isList_push {h : Heap} {vs : List Value} : (h.push { cls := .type "list", data := .seq vs.toArray }).IsList h.objs.size vs.toArray := ⟨_, Heap.get?_push_size _ rfl, rfl, 0, rfl⟩

set_option maxHeartbeats 1000000 in
/-- sizes = [..][ending] -/
theorem ruler_B1 {n : Int} {T : Addr} {Q : Flow → Shared → Prop} (hL : L = s₀.heap.objs.size) (F : RF L s.heap m none none none none) (K : Kr base s₀ s) (R : RA n T m)
    (next : ∀ s' m' sA vs, RF L s'.heap m' none none none none → Kr base s₀ s' → RA n T m' → m' "sizes" = some (.ref sA) → s'.heap.IsList sA vs.toArray → IntsAre vs (rSizes n) → L + 5 ≤ sA →
      wpAny (model P w) A (execs ((dBod (stAt 21)).drop 7) (rEnv L a cd)) Q E s') :
    wpAny (model P w) A (execs ((dBod (stAt 21)).drop 6) (rEnv L a cd)) Q E s := by
  obtain ⟨⟨t1, r1⟩, ⟨t2, r2⟩, ⟨t3, r3⟩, ⟨t4, r4⟩, r5⟩ := id R
  refine wpAny_execs_cons (wpAny_Assign_Name (itemL (wpAny_List ?_)))
  refine wpAny_items_cons (ints_listR (ns := [rFirst n, rNear n, rWide n, 0, 5]) F ?_ (by simp) fun v1 k1 i1 => ?_)
  · repeat' first | exact EvAll.nil | refine EvAll.cons ?_ ?_
    all_goals w_left
  have F1 := F.push { cls := .type "list", data := .seq v1.toArray }
  refine wpAny_items_cons (ints_listR (s := { s with heap := _, toks := _ }) (ns := [rFirst n, rNear n, rWide n, 127, 9]) F1 ?_ (by simp) fun v2 k2 i2 => ?_)
  · repeat' first | exact EvAll.nil | refine EvAll.cons ?_ ?_
    all_goals w_left
  have F2 := F1.push { cls := .type "list", data := .seq v2.toArray }
  refine wpAny_items_cons (ints_listR (s := { s with heap := _, toks := _ }) (ns := [rFirst n, rNear n, rWide n]) F2 ?_ (by simp) fun v3 k3 i3 => ?_)
  · repeat' first | exact EvAll.nil | refine EvAll.cons ?_ ?_
    all_goals w_left
  have F3 := F2.push { cls := .type "list", data := .seq v3.toArray }
  refine wpAny_items_cons (ints_listR (s := { s with heap := _, toks := _ }) (ns := [rFirst n, rNear n, 0, rWide n]) F3 ?_ (by simp) fun v4 k4 i4 => ?_)
  · repeat' first | exact EvAll.nil | refine EvAll.cons ?_ ?_
    all_goals w_left
  have F4 := F3.push { cls := .type "list", data := .seq v4.toArray }
  have hT := RF.top F
  have l1 : (s.heap.push { cls := .type "list", data := .seq v1.toArray }).IsList s.heap.objs.size v1.toArray := isList_push
  have l2 := isList_push (h := s.heap.push { cls := .type "list", data := .seq v1.toArray }) (vs := v2)
  have l3 := isList_push (h := (s.heap.push { cls := .type "list", data := .seq v1.toArray }).push { cls := .type "list", data := .seq v2.toArray }) (vs := v3)
  have l4 := isList_push (h := ((s.heap.push { cls := .type "list", data := .seq v1.toArray }).push { cls := .type "list", data := .seq v2.toArray }).push { cls := .type "list", data := .seq v3.toArray }) (vs := v4)
  have l1 := ((l1.push { cls := .type "list", data := .seq v2.toArray }).push { cls := .type "list", data := .seq v3.toArray }).push { cls := .type "list", data := .seq v4.toArray }
  have l2 := (l2.push { cls := .type "list", data := .seq v3.toArray }).push { cls := .type "list", data := .seq v4.toArray }
  have l3 := l3.push { cls := .type "list", data := .seq v4.toArray }
  simp only [Heap.size_push] at l2 l3 l4
  refine wpAny_items_nil ⟨by show 4 ≤ 2 ^ 24; decide, ?_⟩
  simp only [Heap.size_push]
  have kp : ∀ b o, s.heap.get? b = some o → ((((s.heap.push { cls := .type "list", data := .seq v1.toArray }).push { cls := .type "list", data := .seq v2.toArray }).push { cls := .type "list", data := .seq v3.toArray }).push { cls := .type "list", data := .seq v4.toArray }).get? b = some o :=
    fun b o e => Heap.get?_push_of_some _ (Heap.get?_push_of_some _ (Heap.get?_push_of_some _ (Heap.get?_push_of_some _ e)))
  generalize hH : (((s.heap.push { cls := .type "list", data := .seq v1.toArray }).push { cls := .type "list", data := .seq v2.toArray }).push { cls := .type "list", data := .seq v3.toArray }).push { cls := .type "list", data := .seq v4.toArray } = H at *
  have hz : H.objs.size = s.heap.objs.size + 4 := by rw [← hH]; simp only [Heap.size_push]
  generalize s.heap.objs.size = Z at *
  refine ldR (s := { s with heap := _, toks := k4 }) (F4.push _) r1 ?_
  have hm : (H.push { cls := .type "list", data := .seq [Value.ref Z, .ref (Z + 1), .ref (Z + 1 + 1), .ref (Z + 1 + 1 + 1)].toArray }).IsList H.objs.size [Value.ref Z, .ref (Z + 1), .ref (Z + 1 + 1), .ref (Z + 1 + 1 + 1)].toArray := isList_push
  rw [hz] at hm
  have he := ending_range n
  have key : ∃ sA vs, [Value.ref Z, .ref (Z + 1), .ref (Z + 2), .ref (Z + 3)].toArray[(rEnding n).toNat]? = some (.ref sA) ∧ H.IsList sA (List.toArray vs) ∧ IntsAre vs (rSizes n) ∧ L + 5 ≤ sA := by
    unfold rSizes
    have h4 : rEnding n = 0 ∨ rEnding n = 1 ∨ rEnding n = 2 ∨ rEnding n = 3 := by omega
    rcases h4 with h | h | h | h <;> rw [h]
    · exact ⟨_, v1, rfl, l1, i1, hT⟩
    · exact ⟨_, v2, rfl, l2, i2, Nat.le_succ_of_le hT⟩
    · exact ⟨_, v3, rfl, l3, i3, Nat.le_succ_of_le (Nat.le_succ_of_le hT)⟩
    · exact ⟨_, v4, rfl, l4, i4, Nat.le_succ_of_le (Nat.le_succ_of_le (Nat.le_succ_of_le hT))⟩
  obtain ⟨sA, vs, e1, e2, e3, e4⟩ := key
  refine ⟨_, _, rEnding n, t1, .ref sA, rfl, rfl, hm, he.1, by omega, e1, ?_⟩
  refine stR (s := { s with heap := _, toks := k4 }) hL (F4.push _) (K.heap fun b o _ e => Heap.get?_push_of_some _ (kp b o e)) fun h5 tk5 F5 K5 k5 => ?_
  refine next _ _ sA vs F5 K5 ⟨⟨t1, r1⟩, ⟨t2, r2⟩, ⟨t3, r3⟩, ⟨t4, r4⟩, r5⟩ (by rfl) ((e2.push _).at fun o e => k5 _ o (neA (by have := ltA e4; omega)) e) e3 e4
end
end Mine
end

section
open PySem PySem.W PyProof.Rows
set_option maxRecDepth 100000
namespace Mine
local macro_rules | `(tactic| w_left) => `(tactic| repeat' (first | exact EvR.cint | exact EvR.cbool | exact EvR.startR | exact EvR.stepR | (refine' EvR.locR (by rfl) (by rfl) (by decide)) | refine' EvR.add ?_ ?_ | refine' EvR.sub ?_ ?_ | refine' EvR.mul ?_ ?_ ?_ | refine' EvR.div ?_ ?_ ?_ ?_ | refine' EvR.mod ?_ ?_ ?_ | refine' EvR.neg ?_ | refine' EvR.eq ?_ ?_ | refine' EvR.lt ?_ ?_ | refine' EvR.gt ?_ ?_ | (refine' EvR.locR (by assumption) (by rfl) (by decide))))

theorem leA {a b : Nat} (h : a ≤ b) : a ≤ b := h
section
variable {w : World} {A : Around} {E : Value → Shared → Prop} {s s₀ : Shared} {mg mb : Str → Option Value} {L a : Addr} {cd : Value} {m : Str → Option Value} {base : Heap} {c1 c2 c3 c4 : Option Value} {env : Env}

/-- iter(range(e)) in any frame -/
theorem rangeG {p pos : Pos} {e1 : Expr} {n : Int} {Q : Value → Shared → Prop} (B : Base w mg mb s.heap)
    (h1 : -(2 ^ 62) ≤ n) (h2 : n < 2 ^ 62)
    (x1 : ∀ Q' : Value → Shared → Prop, (∀ t tk, Q' (.int n t) { s with toks := tk }) → wpAny (model P w) A (eval e1 env) Q' E s)
    (h : ∀ It tk h', (∀ b o, s.heap.get? b = some o → h'.get? b = some o) → h'.objs.size = It + 1 → s.heap.objs.size ≤ It → IsRangeIter h' It (0 + ((0 : Nat) : Int) * 1) ((n.toNat : Int) - ((0 : Nat) : Int)) 1 → Q (.ref It) { s with heap := h', toks := tk })
    (he : starEach [e1] env = [(false, eval e1 env)] := by rfl) (hg : env.globals = mainGlobals := by rfl) (hbn : env.builtins = builtinsNs := by rfl)
    (hk : env.scope.kind = .function := by rfl) (hx : env.kindOf "range" = some .globalImplicit := by rfl) :
    wpAny (model P w) A (eval (.Call (.Name "range" p) [e1] [] pos) env) (fun xv s₁ => wpAny (model P w) A (pyIter xv) Q E s₁) E s := by
  refine wpAny_Call_NameR (ldbE B (by decide) (v := .type "range") (by rfl) ?_ hg hbn hk hx)
  rw [show backTo pos (starEach [e1] env) = [(false, eval e1 env)] from by rw [he]; rfl]
  refine callWith_excType rfl (Calls.evalArgs_plain (Calls.spliced_cons (x1 _ fun t1 tk1 => Calls.spliced_nil ?_)))
  refine call_range_1 ?_
  refine wpAny_pyIter_range (a := 0) (b := n) (c := 1) (Heap.get?_push_size _ rfl) (small_one (by decide) (by decide) h1 h2) ?_
  refine h _ _ _ (fun b o e => Heap.get?_push_of_some _ (Heap.get?_push_of_some _ e)) (by rw [Heap.size_push]) (by rw [Heap.size_push]; exact Nat.le_succ _) ?_
  have e : Builtin.Range.rangeSize 0 n 1 = (n.toNat : Int) := by rw [rangeSize_nat]; simp
  rw [e]
  refine (Heap.get?_push_size _ rfl).trans ?_
  simp [rawInt]

set_option maxHeartbeats 1000000 in
/-- start, step, last, marks -/
theorem ruler_B2 {n : Int} {T sA : Addr} {vs : List Value} {Q : Flow → Shared → Prop} (B : Base w mg mb base) (Rm : Room A 0 10) (hL : L = s₀.heap.objs.size) (F : RF L s.heap m none none none none) (K : Kr base s₀ s) (R : RA n T m)
    (z1 : m "sizes" = some (.ref sA)) (z2 : s.heap.IsList sA vs.toArray) (z3 : IntsAre vs (rSizes n)) (z4 : L + 5 ≤ sA)
    (next : ∀ s' m' t1 t2 mA ms, RF L s'.heap m' (some (.int (rStart n) t1)) (some (.int (rStep n) t2)) none none → Kr base s₀ s' → RB n L T m' s'.heap sA mA vs ms →
      wpAny (model P w) A (execs ((dBod (stAt 21)).drop 11) (rEnv L a cd)) Q E s') :
    wpAny (model P w) A (execs ((dBod (stAt 21)).drop 7) (rEnv L a cd)) Q E s := by
  obtain ⟨⟨t1, r1⟩, ⟨t2, r2⟩, ⟨t3, r3⟩, ⟨t4, r4⟩, r5⟩ := id R
  have z4' := ltA z4
  -- start
  refine wpAny_execs_cons (wpAny_Assign_Name (Rv.int F (n := rStart n) ?_ fun t5 tk5 => ?_))
  · unfold rStart; w_left
  refine stStart (s := { s with toks := tk5 }) hL F (K.heap fun _ _ _ e => e) fun h5 F5 K5 k5 => ?_
  have z5 := z2.at fun o e => k5 _ o (neA (by omega)) e
  -- step
  refine wpAny_execs_cons (wpAny_Assign_Name (Rv.int (s := { s with heap := h5, toks := tk5 }) F5 (n := rStep n) ?_ fun t6 tk6 => ?_))
  · unfold rStep
    refine EvR.ite (c := (rEnding n == 3)) ?_ (fun e => ?_) (fun e => ?_)
    · w_left
    · rw [if_pos e]; w_left
    · rw [if_neg (by rw [e]; decide)]; w_left
  refine stStep (s := { s with heap := h5, toks := tk6 }) hL F5 (K5.heap fun _ _ _ e => e) fun h6 F6 K6 k6 => ?_
  have z6 := z5.at fun o e => k6 _ o (neA (by omega)) e
  -- last
  have B6 : Base w mg mb h6 := B.keeps K6.stays
  refine wpAny_execs_cons (wpAny_Assign_Name ?_)
  refine callBE (s := { s with heap := h6, toks := tk6 }) (id := "min") B6 (by decide) (by rfl) ?_
  refine wpAny_items_cons (IfExp_ (wpAny_isTrue_Compare1 (ldR (s := { s with heap := h6, toks := tk6 }) F6 r1 ?_)))
  refine wpAny_Tuple (wpAny_items_cons (wpAny_Constant_int (wpAny_items_cons (wpAny_Constant_int (wpAny_items_nil ⟨show 2 ≤ sizeLine by decide, ?_⟩)))))
  refine in_tuple_ints (ns := [0, 3]) ⟨_, Heap.get?_push_size _ rfl, rfl, _, rfl⟩ (.cons _ _ (.cons _ _ .nil)) (wpAny_truthy_bool ?_)
  dsimp only
  generalize hH : Heap.push h6 _ = h7
  have k7 : ∀ b o, h6.get? b = some o → h7.get? b = some o := fun b o e => hH ▸ Heap.get?_push_of_some _ e
  have F7 := F6.keeps k7
  have z7 := z6.at fun o e => k7 _ o e
  have hst := step_range n
  have hsr := start_range n
  have hla := last_range n
  have htop : ∀ (p q : Pos) (Q : Value → Shared → Prop) (s : Shared), (∀ t tk, Q (.int (rTop n) t) { s with toks := tk }) → if [0, 3].any (· == rEnding n) = true then wpAny (model P w) A (eval (.Constant (.int 10) 0 p) (rEnv L a cd)) Q E s else wpAny (model P w) A (eval (.Constant (.int 1) 0 q) (rEnv L a cd)) Q E s := by
    intro p q Q s h
    unfold rTop at h
    cases c : [0, 3].any (· == rEnding n) with
    | true =>
      rw [c, if_pos rfl] at h
      rw [if_pos rfl]
      exact wpAny_Constant_int (h _ _)
    | false =>
      rw [c, if_neg Bool.false_ne_true] at h
      rw [if_neg Bool.false_ne_true]
      exact wpAny_Constant_int (h _ _)
  refine htop _ _ _ _ fun t8 tk8 => ?_
  refine wpAny_items_cons (Rv.int (s := { s with heap := h7, toks := tk8 }) F7 (n := (1114111 - rStart n).fdiv (rStep n)) ?_ fun t9 tk9 => wpAny_items_nil ?_)
  · w_left <;> omega
  refine min_two_ints Rm.handled fun h8 tkA k8 => ?_
  rw [minV]
  have F8 := F7.keeps k8
  have z8 := z7.at fun o e => k8 _ o e
  refine stR (s := { s with heap := h8, toks := tkA }) hL F8 (K6.heap (tk := tkA) fun b o _ e => k8 b o (k7 b o e)) fun h9 tkB F9 K9 k9 => ?_
  have z9 := z8.at fun o e => k9 _ o (neA (by omega)) e
  have B9 : Base w mg mb h9 := B.keeps K9.stays
  -- marks
  refine wpAny_execs_cons (wpAny_Assign_Name (wpAny_BinOp ?_))
  refine ints_listR (s := { s with heap := h9, toks := tkB }) (ns := [rFirst n]) F9 (.cons ?_ .nil) (by simp) fun f1 tkC i1 => ?_
  · w_left
  have hT9 := RF.top (s := { s with heap := h9, toks := tkB }) F9
  dsimp only at hT9 ⊢
  have lf := isList_push (h := h9) (vs := f1)
  have FA := F9.push { cls := .type "list", data := .seq f1.toArray }
  have BA : Base w mg mb (h9.push { cls := .type "list", data := .seq f1.toArray }) := B9.keeps fun b o e => Heap.get?_push_of_some _ e
  have zA := z9.push { cls := .type "list", data := .seq f1.toArray }
  have KA := K9.heap (tk := tkC) (h' := h9.push { cls := .type "list", data := .seq f1.toArray }) fun b o _ e => Heap.get?_push_of_some _ e
  generalize h9.push { cls := .type "list", data := .seq f1.toArray } = hA at *
  generalize h9.objs.size = fA at *
  refine listcomp (s := { s with heap := hA, toks := tkC }) (cl := [("step", L + 2), ("start", L + 1)]) (by rfl) (by decide) (by rfl) (by decide) (by rfl) ?_
  refine rangeG (s := { s with heap := hA, toks := tkC }) (n := rLast n + 1) BA (by omega) (by omega) (fun Q' hq => Rv.int FA (n := rLast n + 1) ?_ hq) fun It tkD hD kD hsz hIt hri => ?_
  · w_left
  have hTA := RF.top (s := { s with heap := hA, toks := tkC }) FA
  dsimp only at hD kD hsz hIt hri hTA ⊢
  have hIt' := leA hIt
  have hTA' := ltA hTA
  have hN : (rLast n + 1).toNat ≤ 11 := by omega
  refine ⟨It, [It], [It], (rLast n + 1).toNat, _, _, rfl, Walks.range Rm.handled It 0 1 (rLast n + 1).toNat, by show _ ≤ 2 ^ 24; omega, hri, ?_,
    fun i zs _ => IntsAre zs ((rangeInts 0 1 i).map fun r => rStart n + rStep n * r), IntsAre.nil, fun _ _ _ _ x _ => x, ?_, ?_⟩
  · intro b hb
    simp only [List.mem_singleton] at hb
    show b < hD.objs.size
    rw [hb, hsz]; exact Nat.lt_succ_self _
  · rintro i v zs s₃ m₃ ⟨tv, rfl⟩ hlz hn₃ hm₃ hz hk
    refine wpAny_pure ⟨Kp.refl _, ?_⟩
    rw [if_pos rfl]
    have kk : ∀ b o, b < L + 5 → hA.get? b = some o → s₃.heap.get? b = some o := fun b o hb e => hk b o (by
      simp only [List.mem_singleton]; exact neA (by have := ltA hb; omega)) (kD b o e)
    have cS : s₃.heap.IsCell (L + 1) (some (.int (rStart n) t5)) := let ⟨o, e, hd⟩ := FA.start; ⟨o, kk _ o (ltA (by omega)) e, hd⟩
    have cT : s₃.heap.IsCell (L + 2) (some (.int (rStep n) t6)) := let ⟨o, e, hd⟩ := FA.step; ⟨o, kk _ o (ltA (by omega)) e, hd⟩
    refine wpAny_BinOp (ldCE cS (wpAny_BinOp (ldCE cT (ldE hn₃ hm₃ (mul_int (add_int ⟨⟨fun _ _ e => e, rfl, id⟩, ?_⟩) (IntMulOk.of_left (bits_small (by omega) (by omega))))))))
    show IntsAre _ (List.map _ (rangeInts _ 1 (i + 1)))
    rw [FinIter.rangeInts_succ, List.map_append]
    exact hz.append (.cons _ _ .nil)
  · intro s₄ zs hpz hz Ku4
    have hzl : zs.length ≤ 11 := by rw [hz.length, List.length_map, rangeInts_length]; exact hN
    have k4 : ∀ b o, hA.get? b = some o → s₄.heap.get? b = some o := fun b o e => Ku4.keep b o (by
      simp only [List.mem_singleton]; exact neA (by have := ltA (Heap.lt_size e); omega)) (kD b o e)
    have hf1 : f1.length = 1 := by rw [i1.length]; rfl
    refine addL (lf.at fun o e => k4 _ o e) hpz.isList (by omega) ?_
    have K4 : Kr base s₀ s₄ := ⟨KA.low, fun b o e => k4 b o (KA.stays b o e), KA.up.trans (.of_keeps k4), Ku4.os.trans KA.os, fun hb => Ku4.bare (KA.bare hb)⟩
    refine stR (s := { s₄ with heap := _ }) hL ((FA.keeps k4).push _) (K4.heap (tk := s₄.toks) fun b o _ e => Heap.get?_push_of_some _ e) fun h5' tk5' F5' K5' k5' => ?_
    have hS4 : L + 5 ≤ s₄.heap.objs.size := RF.top (FA.keeps k4)
    have hS4' := ltA hS4
    refine next _ _ t5 t6 s₄.heap.objs.size (f1 ++ zs) F5' K5' ⟨z1, ?_, z3, z4, by rfl, ?_, ?_, hS4, ⟨_, r4⟩, ⟨_, by rfl⟩, r5⟩
    · exact ((zA.at fun o e => k4 _ o e).push _).at fun o e => k5' _ o (neA (by omega)) e
    · exact (isList_push (h := s₄.heap) (vs := f1 ++ zs)).at fun o e => k5' _ o (neA (by omega)) e
    · exact i1.append hz
end
end Mine
end

section
open PySem PySem.W PyProof.Rows PySem.SeqAt
set_option maxRecDepth 100000
namespace Mine
local macro_rules | `(tactic| w_left) => `(tactic| repeat' (first | exact EvR.cint | exact EvR.cbool | exact EvR.startR | exact EvR.stepR | (refine' EvR.locR (by rfl) (by rfl) (by decide)) | refine' EvR.add ?_ ?_ | refine' EvR.sub ?_ ?_ | refine' EvR.mul ?_ ?_ ?_ | refine' EvR.div ?_ ?_ ?_ ?_ | refine' EvR.mod ?_ ?_ ?_ | refine' EvR.neg ?_ | refine' EvR.eq ?_ ?_ | refine' EvR.lt ?_ ?_ | refine' EvR.gt ?_ ?_ | (refine' EvR.locR (by assumption) (by rfl) (by decide))))

theorem reads_pair {h : Heap} {l D : Addr} {x : Str} {t : Tok} {ys : List Value} {ns : List Int} (hl : h.IsList l #[.ref D, .str x t]) (hD : h.IsList D ys.toArray) (hi : IntsAre ys ns) :
    ∃ as, Reads h (.ref l) (.list [.list (ns.map PyData.int), .str x]) as := by
  obtain ⟨o, ho, hc, n, hd⟩ := hl
  exact ⟨_, Reads.list ho hc hd (ReadsAll.cons (reads_of_ints hD hi) (ReadsAll.cons (Reads.str x t) ReadsAll.nil))⟩
theorem shaped_pair (ns : List Int) (x : Str) (hx : PyData.strOk x = true) : shaped (.list [.list (ns.map PyData.int), .str x]) = true := by
  have h1 := PySem.W.depthAll_ints ns
  have h2 : PyData.depth (.list [.list (ns.map PyData.int), .str x]) ≤ 64 := by simp only [PyData.depth, PyData.depthAll]; omega
  show (PyData.canLay0 (.list [.list (ns.map PyData.int), .str x]) && decide (PyData.depth (.list [.list (ns.map PyData.int), .str x]) ≤ 64)) = true
  rw [Bool.and_eq_true]
  refine ⟨?_, decide_eq_true h2⟩
  simp [PyData.canLay0, PyData.canLayAll0, PySem.W.canLayAll0_ints, hx]
theorem eqvAll_self : ∀ ns : List Int, PyData.eqvAll (ns.map PyData.int) (ns.map PyData.int) = true
  | [] => by simp [PyData.eqvAll]
  | a :: r => by simp [PyData.eqvAll, PyData.eqv, eqvAll_self r]
theorem eqv_pair (ns : List Int) (x : Str) : PyData.eqv (.list [.list (ns.map PyData.int), .str x]) (.list [.list (ns.map PyData.int), .str x]) = true := by
  simp [PyData.eqv, PyData.eqvAll, eqvAll_self]

section
variable {w : World} {A : Around} {E : Value → Shared → Prop} {s s₀ : Shared} {mg mb : Str → Option Value} {L a : Addr} {cd : Value} {m : Str → Option Value} {base : Heap} {c1 c2 c3 c4 : Option Value} {env : Env}

theorem ne_pair {l D l' D' : Addr} {x : Str} {t t' : Tok} {ys ys' : List Value} {ns : List Int} {Q : Value → Shared → Prop} (hl : s.heap.IsList l #[.ref D, .str x t]) (hD : s.heap.IsList D ys.toArray) (hi : IntsAre ys ns)
    (hl' : s.heap.IsList l' #[.ref D', .str x t']) (hD' : s.heap.IsList D' ys'.toArray) (hi' : IntsAre ys' ns) (hu : A.units + 64 < cLine) (h : Q (.bool false) s) (hx : PyData.strOk x = true := by decide +kernel) :
    wpAny (model P w) A (compareOp .NotEq (.ref l) (.ref l')) Q E s := by
  obtain ⟨as, r⟩ := reads_pair hl hD hi
  obtain ⟨as', r'⟩ := reads_pair hl' hD' hi'
  refine ne_dataH r r' (shaped_pair ns x hx) (shaped_pair ns x hx) hu ?_
  rw [eqv_pair]
  exact h

theorem RB.of {n : Int} {T sA mA : Addr} {vs ms : List Value} {h h' : Heap} (x : RB n L T m h sA mA vs ms) (k : h.UpToSlots h') : RB n L T m h' sA mA vs ms :=
  { x with slist := UpToSlots.isList k x.slist, mlist := UpToSlots.isList k x.mlist }

theorem sizes_head (n : Int) : (rSizes n).head? = some (rFirst n) := by
  unfold rSizes
  have he := ending_range n
  have h4 : rEnding n = 0 ∨ rEnding n = 1 ∨ rEnding n = 2 ∨ rEnding n = 3 := by omega
  rcases h4 with h | h | h | h <;> rw [h] <;> rfl

set_option maxHeartbeats 1000000 in
/-- the two questions to _law_marks -/
theorem ruler_C {n : Int} {T sA mA : Addr} {vs ms : List Value} {outer : List Env} {Q : Flow → Shared → Prop} {t1 t2 : Tok} (B : Base w mg mb base) (Rm : Room A 3 70) (hfr : A.frames = some (rEnv L a cd :: outer)) (hfo : s₀.heap.FunFrames base outer)
    (hL : L = s₀.heap.objs.size) (hM : marksOf (rSizes n) = rMarks n)
    (F : RF L s.heap m (some (.int (rStart n) t1)) (some (.int (rStep n) t2)) none none) (K : Kr base s₀ s) (R : RB n L T m s.heap sA mA vs ms)
    (next : ∀ s', RF L s'.heap m (some (.int (rStart n) t1)) (some (.int (rStep n) t2)) none none → Kr base s₀ s' → RB n L T m s'.heap sA mA vs ms →
      wpAny (model P w) A (execs ((dBod (stAt 21)).drop 13) (rEnv L a cd)) Q E s') :
    wpAny (model P w) A (execs ((dBod (stAt 21)).drop 11) (rEnv L a cd)) Q E s := by
  have hu : A.units + 64 < cLine := by have := Rm.units; omega
  have B1 : Base w mg mb s.heap := B.keeps K.stays
  obtain ⟨fa, Fa⟩ := B1.f19
  have hf0 := first_range n
  refine wpAny_execs_cons (wpAny_If (wpAny_isTrue_Compare1 (callFE B1 Fa (wpAny_items_cons (ldR F R.sizes (wpAny_items_nil ⟨fun _ _ e => e, ?_⟩))))))
  refine marks_told B1 (Rm.less (by omega) (by omega)) Fa R.slist R.sints (by rw [sizes_head]; intro q; have q := Option.some.inj q; omega) fun s2 l D ys t K2 p1 p2 i2 => ?_
  have F2 := F.keeps K2.keep
  have R2 := R.of (.of_keeps K2.keep)
  have Kr2 := K.kp K2
  refine wpAny_List (wpAny_items_cons (ldR F2 R.marks (wpAny_items_cons (wpAny_Constant_str (wpAny_items_nil ⟨by show 2 ≤ 2 ^ 24; decide, ?_⟩)))))
  rw [hM] at i2
  refine ne_pair (p1.isList.push _) (p2.isList.push _) i2 isList_push (R2.mlist.push _) R2.mints hu (wpAny_truthy_bool ?_)
  rw [if_neg Bool.false_ne_true]
  refine wpAny_execs_nil ?_
  have F3 := F2.push { cls := .type "list", data := .seq [Value.ref mA, .str "told" s2.toks].toArray }
  have R3 := R2.of (.of_keeps fun b o e => Heap.get?_push_of_some { cls := .type "list", data := .seq [Value.ref mA, .str "told" s2.toks].toArray } e)
  have K3 := Kr2.heap (tk := s2.toks + 1) (h' := s2.heap.push { cls := .type "list", data := .seq [Value.ref mA, .str "told" s2.toks].toArray }) fun b o _ e => Heap.get?_push_of_some _ e
  dsimp only at *
  generalize hS3 : Shared.mk (s2.heap.push { cls := .type "list", data := .seq [Value.ref mA, .str "told" s2.toks].toArray }) s2.gens s2.drawn (s2.toks + 1) s2.os = s3 at *
  have hh3 : s2.heap.push { cls := .type "list", data := .seq [Value.ref mA, .str "told" s2.toks].toArray } = s3.heap := by rw [← hS3]
  rw [hh3] at F3 R3
  -- the row with a nought ahead
  have B3 : Base w mg mb s3.heap := B.keeps K3.stays
  obtain ⟨fb, Fb0⟩ := B.f19
  refine wpAny_execs_cons (wpAny_If (wpAny_isTrue_Compare1 (callFE B3 (Fb0.keeps K3.stays) (wpAny_items_cons (wpAny_BinOp (wpAny_List (wpAny_items_cons (wpAny_Constant_int (wpAny_items_nil ⟨by show 1 ≤ 2 ^ 24; decide, ?_⟩)))))))))
  refine ldR (s := { s3 with heap := _, toks := _ }) (F3.push _) R.sizes ?_
  have hvl : vs.length ≤ 5 := by
    rw [R.sints.length]
    unfold rSizes
    have he := ending_range n
    have h4 : rEnding n = 0 ∨ rEnding n = 1 ∨ rEnding n = 2 ∨ rEnding n = 3 := by omega
    rcases h4 with h | h | h | h <;> rw [h] <;> simp [menuOf]
  refine addL (vs := [Value.int 0 s3.toks]) isList_push (R3.slist.push _) (by simp only [List.length_singleton]; omega) ?_
  refine wpAny_items_nil ⟨fun b o e => Heap.get?_push_of_some _ (Heap.get?_push_of_some _ e), ?_⟩
  have hl4 : ((s3.heap.push { cls := .type "list", data := .seq [Value.int 0 s3.toks].toArray }).push { cls := .type "list", data := .seq ([Value.int 0 s3.toks] ++ vs).toArray }).IsList
      (s3.heap.push { cls := .type "list", data := .seq [Value.int 0 s3.toks].toArray }).objs.size ([Value.int 0 s3.toks] ++ vs).toArray := isList_push
  have k4 : ∀ b o, s3.heap.get? b = some o → ((s3.heap.push { cls := .type "list", data := .seq [Value.int 0 s3.toks].toArray }).push { cls := .type "list", data := .seq ([Value.int 0 s3.toks] ++ vs).toArray }).get? b = some o :=
    fun b o e => Heap.get?_push_of_some _ (Heap.get?_push_of_some _ e)
  generalize hH4 : (s3.heap.push { cls := .type "list", data := .seq [Value.int 0 s3.toks].toArray }).push { cls := .type "list", data := .seq ([Value.int 0 s3.toks] ++ vs).toArray } = h4 at *
  generalize (s3.heap.push { cls := .type "list", data := .seq [Value.int 0 s3.toks].toArray }).objs.size = gl at *
  have F4 := F3.keeps k4
  have R4 := R3.of (.of_keeps k4)
  have K4 := K3.heap (tk := s3.toks + 1) (h' := h4) fun b o _ e => k4 b o e
  have hLb : base.get? L = none := by
    cases e : base.get? L with
    | none => rfl
    | some o => exact absurd (Heap.lt_size (K.low L o e)) (by rw [hL]; exact Nat.lt_irrefl _)
  have fo4 : h4.FunFrames base outer := hfo.of_keeps fun b o e hn => let ⟨sl, e1⟩ := K4.up b o e hn; ⟨_, e1, rfl⟩
  have bl : Below A base (rEnv L a cd :: outer) h4 := ⟨hfr, K4.stays, Heap.FunFrames.cons (L := L) (by show (dSco (stAt 21)).kind ≠ .module; decide) rfl F4.ns hLb fo4⟩
  refine marks_refused (s := { s3 with heap := h4, toks := _ }) (items := [Value.int 0 s3.toks] ++ vs) (ns := rSizes n) bl B (Rm.less (by omega) (by omega)) Fb0 hl4 (.cons _ _ R.sints) fun s5 l5 D5 t5 st5 up5 os5 br5 l5l D5l => ?_
  have F5 := F4.upTo up5
  have R5 := R4.of up5
  have K5 : Kr base s₀ s5 := ⟨K.low, st5, K4.up.trans up5, os5.trans K4.os, fun hb => br5 (K4.bare hb)⟩
  refine wpAny_List (wpAny_items_cons (wpAny_List (wpAny_items_nil ⟨by decide, wpAny_items_cons (wpAny_Constant_str (wpAny_items_nil ⟨by show 2 ≤ 2 ^ 24; decide, ?_⟩))⟩)))
  refine ne_pair (ys := []) (ys' := []) (ns := []) ((l5l.push _).push _) ((D5l.push _).push _) .nil isList_push (isList_push.push _) .nil hu (wpAny_truthy_bool ?_)
  rw [if_neg Bool.false_ne_true]
  refine wpAny_execs_nil ?_
  have k6 : ∀ (o1 o2 : Obj) b o, s5.heap.get? b = some o → ((s5.heap.push o1).push o2).get? b = some o := fun _ _ b o e => Heap.get?_push_of_some _ (Heap.get?_push_of_some _ e)
  exact next _ (F5.keeps (k6 _ _)) (K5.heap fun b o _ e => k6 _ _ b o e) (R5.of (.of_keeps (k6 _ _)))
end
end Mine
end

section
open PySem PySem.W PyProof.Rows PySem.SeqAt
set_option maxRecDepth 100000
namespace Mine

theorem marks_ok (n : Int) : ∀ c ∈ rMarks n, 0 ≤ c ∧ c ≤ 1114111 := by
  have h1 := first_range n
  have h2 := start_range n
  have h3 := step_range n
  have h4 := last_range n
  intro c hc
  rcases List.mem_cons.mp hc with rfl | hc
  · omega
  · unfold rRungs at hc
    obtain ⟨r, hr, rfl⟩ := List.mem_map.mp hc
    have hr' : 0 ≤ r ∧ r ≤ rLast n := by
      unfold rangeInts at hr
      simp at hr
      omega
    have hl : rLast n ≤ (1114111 - rStart n).fdiv (rStep n) := by unfold rLast; split <;> omega
    rw [Int.fdiv_eq_ediv_of_nonneg _ (by omega)] at hl
    have h5 := Int.mul_ediv_self_le (x := 1114111 - rStart n) (k := rStep n) (by omega)
    have h6 : rStep n * r ≤ rStep n * ((1114111 - rStart n) / rStep n) := Int.mul_le_mul_of_nonneg_left (by omega) (by omega)
    have h7 : 0 ≤ rStep n * r := Int.mul_nonneg (by omega) hr'.1
    omega
theorem marks_len (n : Int) : (rMarks n).length = (rLast n + 1).toNat + 1 := by
  unfold rMarks rRungs; simp [rangeInts_length]

def ToldAt (L : Addr) (h : Heap) (tA : Addr) (cs : List Int) : Prop := ∃ vs : List Value, h.IsList tA vs.toArray ∧ L + 5 ≤ tA ∧ vs.length = cs.length ∧
  ∀ (j : Nat) v, vs[j]? = some v → ∃ a c, v = .ref a ∧ cs[j]? = some c ∧ L + 5 ≤ a ∧ h.IsList a ((toldOf c).map Value.bool).toArray
theorem ToldAt.keeps {L : Addr} {h h' : Heap} {tA : Addr} {cs : List Int} (x : ToldAt L h tA cs) (k : ∀ b o, L + 5 ≤ b → h.get? b = some o → h'.get? b = some o) : ToldAt L h' tA cs :=
  let ⟨vs, a1, a2, a3, a4⟩ := x
  ⟨vs, a1.at fun o e => k _ o a2 e, a2, a3, fun j v e => let ⟨a, c, b1, b2, b3, b4⟩ := a4 j v e; ⟨a, c, b1, b2, b3, b4.at fun o e => k _ o b3 e⟩⟩

section
variable {w : World} {A : Around} {E : Value → Shared → Prop} {s s₀ : Shared} {mg mb : Str → Option Value} {L a : Addr} {cd : Value} {m : Str → Option Value} {base : Heap} {c1 c2 c3 c4 : Option Value} {env : Env}

theorem RB.off {n : Int} {T sA mA : Addr} {vs ms : List Value} {h h' : Heap} (x : RB n L T m h sA mA vs ms) (k : ∀ b o, L + 5 ≤ b → h.get? b = some o → h'.get? b = some o) : RB n L T m h' sA mA vs ms :=
  { x with slist := x.slist.at fun o e => k _ o x.soff e, mlist := x.mlist.at fun o e => k _ o x.moff e }

set_option maxHeartbeats 1000000 in
/-- told = [_law_told(mark) for mark in marks] -/
theorem ruler_D {n : Int} {T sA mA : Addr} {vs ms : List Value} {Q : Flow → Shared → Prop} {t1 t2 : Tok} (B : Base w mg mb base) (Rm : Room A 3 70)
    (hL : L = s₀.heap.objs.size)
    (F : RF L s.heap m (some (.int (rStart n) t1)) (some (.int (rStep n) t2)) none none) (K : Kr base s₀ s) (R : RB n L T m s.heap sA mA vs ms)
    (next : ∀ s' tA, RF L s'.heap m (some (.int (rStart n) t1)) (some (.int (rStep n) t2)) (some (.ref tA)) none → Kr base s₀ s' → RB n L T m s'.heap sA mA vs ms → ToldAt L s'.heap tA (rMarks n) →
      wpAny (model P w) A (execs ((dBod (stAt 21)).drop 14) (rEnv L a cd)) Q E s') :
    wpAny (model P w) A (execs ((dBod (stAt 21)).drop 13) (rEnv L a cd)) Q E s := by
  have hT := RF.top F
  have hT' := ltA hT
  refine wpAny_execs_cons (wpAny_Assign_Name ?_)
  refine listcomp (cl := []) (by rfl) (by decide) (by rfl) (by decide) (by rfl) ?_
  refine ldR F R.marks (wpAny_pyIter_list R.mlist ?_)
  dsimp only
  have hmlt : mA < s.heap.objs.size := by obtain ⟨o, e, _⟩ := R.mlist; exact Heap.lt_size e
  have kI : ∀ b o, s.heap.get? b = some o → (s.heap.push { cls := .type "list_iterator", data := .fields #[.ref mA, .int 0 0] }).get? b = some o := fun b o e => Heap.get?_push_of_some _ e
  have hIi : (s.heap.push { cls := .type "list_iterator", data := .fields #[.ref mA, .int 0 0] }).IsListIter s.heap.objs.size mA 0 := ⟨_, Heap.get?_push_size _ rfl, rfl, rfl⟩
  have hsz : (s.heap.push { cls := .type "list_iterator", data := .fields #[.ref mA, .int 0 0] }).objs.size = s.heap.objs.size + 1 := Heap.size_push ..
  generalize (s.heap.push { cls := .type "list_iterator", data := .fields #[.ref mA, .int 0 0] }) = hI at *
  rw [hsz]
  generalize hIe : s.heap.objs.size = I at *
  have hml : ms.length ≤ 12 := by rw [R.mints.length, marks_len]; have := last_range n; omega
  refine ⟨I, [I, mA], [I], ms.toArray.size, _, _, rfl, Walks.list Rm.handled I mA (Nat.ne_of_lt hmlt) ms.toArray, by rw [List.size_toArray]; show _ ≤ 2 ^ 24; omega, ⟨hIi, R.mlist.at fun o e => kI _ o e⟩, ?_,
    fun i ys h => ys.length = i ∧ ∀ (j : Nat) v, ys[j]? = some v → ∃ a c, v = .ref a ∧ (rMarks n)[j]? = some c ∧ I + 1 + 2 ≤ a ∧ h.IsList a ((toldOf c).map Value.bool).toArray, ⟨rfl, fun j v e => by simp at e⟩, ?_, ?_, ?_⟩
  · intro b hb
    simp only [List.mem_cons, List.not_mem_nil, or_false] at hb
    rcases hb with rfl | rfl
    · exact Nat.lt_succ_self _
    · exact Nat.lt_succ_of_lt hmlt
  · rintro i ys h h' ⟨e1, e2⟩ hk
    refine ⟨e1, fun j v e => ?_⟩
    obtain ⟨a, c, x1, x2, x3, x4⟩ := e2 j v e
    refine ⟨a, c, x1, x2, x3, x4.at fun o e => hk a o (.inr x3) (fun hm => ?_) e⟩
    simp only [List.mem_singleton] at hm
    subst hm
    have := ltA x3
    omega
  · rintro i v ys s₃ m₃ hv hlen hn₃ hm₃ ⟨e1, e2⟩ hk
    refine wpAny_pure ⟨Kp.refl _, ?_⟩
    rw [if_pos rfl]
    have B3 : Base w mg mb s₃.heap := B.keeps fun b o e => hk b o (by
      simp only [List.mem_singleton]
      exact Nat.ne_of_lt (hIe ▸ Heap.lt_size (K.stays b o e))) (kI b o (K.stays b o e))
    obtain ⟨f18, F18⟩ := B3.f18
    have hi : i < ms.length := by
      rcases Nat.lt_or_ge i ms.length with h | h
      · exact h
      · simp only [List.getElem?_toArray] at hv; rw [List.getElem?_eq_none h] at hv; cases hv
    obtain ⟨tc, hc, _⟩ := ints_at R.mints (i := i) (by omega)
    have hl' : i < (rMarks n).length := by rw [← R.mints.length]; exact hi
    have hcm : (rMarks n)[i]? = some ((rMarks n).getD i 0) := by simp [List.getD, hl']
    have ev : v = .int ((rMarks n).getD i 0) tc := by
      simp only [List.getElem?_toArray] at hv
      rw [hv] at hc
      exact Option.some.inj hc
    subst ev
    have hok := marks_ok n _ (List.mem_of_getElem? hcm)
    generalize (rMarks n).getD i 0 = c at *
    refine callFE B3 F18 (wpAny_items_cons (ldE hn₃ hm₃ (wpAny_items_nil ⟨fun _ _ e => e, ?_⟩)))
    refine told_spec B3 (Rm.less (by omega) (by omega)) F18 hok.1 hok.2 fun s4 l K4 l4 hl4 => ⟨K4, by simp [e1], fun j v e => ?_⟩
    have hns := hn₃.lt
    by_cases hj : j < ys.length
    · rw [List.getElem?_append_left hj] at e
      obtain ⟨a, c, x1, x2, x3, x4⟩ := e2 j v e
      exact ⟨a, c, x1, x2, x3, x4.at fun o e => K4.keep _ o e⟩
    · rw [List.getElem?_append_right (by omega)] at e
      have hj0 : j - ys.length = 0 := by
        rcases Nat.eq_zero_or_pos (j - ys.length) with h | h
        · exact h
        · rw [List.getElem?_eq_none (by simp; omega)] at e; cases e
      rw [hj0] at e
      simp only [List.getElem?_cons_zero, Option.some.injEq] at e
      have hji : j = i := by omega
      subst e hji
      exact ⟨l, c, rfl, hcm, leA (by have := leA hl4; have := ltA hns; omega), l4⟩
  · rintro s₅ ys hpl ⟨e1, e2⟩ Ku5
    have k5 : ∀ b o, s.heap.get? b = some o → s₅.heap.get? b = some o := fun b o e => Ku5.keep b o (by
      simp only [List.mem_singleton]
      exact Nat.ne_of_lt (hIe ▸ Heap.lt_size e)) (kI b o e)
    have K5 : Kr base s₀ s₅ := ⟨K.low, fun b o e => k5 b o (K.stays b o e), K.up.trans (.of_keeps k5), Ku5.os.trans K.os, fun hb => Ku5.bare (K.bare hb)⟩
    refine stTold hL (F.keeps k5) K5 fun h6 F6 K6 k6 => ?_
    have k6' : ∀ b o, L + 5 ≤ b → s₅.heap.get? b = some o → h6.get? b = some o := fun b o hb e => k6 b o (neA (by have := ltA hb; omega)) e
    refine next _ (I + 1) F6 K6 (R.off fun b o hb e => k6' b o hb (k5 b o e)) ?_
    refine ToldAt.keeps (h := s₅.heap) ⟨ys, hpl.isList, leA (by omega), by rw [e1, List.size_toArray, R.mints.length], fun j v e => ?_⟩ k6'
    obtain ⟨a, c, x1, x2, x3, x4⟩ := e2 j v e
    exact ⟨a, c, x1, x2, leA (by have := leA x3; omega), x4⟩
end
end Mine
end

section
open PySem PySem.W PyProof.Rows PySem.SeqAt
set_option maxRecDepth 100000
namespace Mine

section
variable {w : World} {A : Around} {E : Value → Shared → Prop} {s : Shared} {env : Env}

/-- a for over what walks, its target one name -/
theorem forLoop_walks {I : Addr} {fp wr : List Addr} {n : Nat} {Pv : Nat → Value → Prop} {St : Nat → Heap → Prop} {x : Str} {px : Pos} {body : List Stmt} {R : Result → Shared → Prop} (W : Walks P w A I fp wr n Pv St) (J : Nat → Shared → Prop)
    (hJ : ∀ i s h' tk, J i s → (∀ b o, b ∉ wr → s.heap.get? b = some o → h'.get? b = some o) → J i { s with heap := h', toks := tk })
    (step : ∀ i v s₁, i < n → Pv i v → J i s₁ → St (i + 1) s₁.heap →
      wpAny (model P w) A (assign (.Name x px) env v) (fun _ s₃ => wpAny (model P w) A (execs body env)
        (fun f s₄ => match f with
          | .next | .cont => J (i + 1) s₄ ∧ St (i + 1) s₄.heap
          | .brk => R (.ok .next) s₄
          | .ret v => R (.ok (.ret v)) s₄) (fun _ _ => False) s₃) (fun _ _ => False) s₁)
    (fin : ∀ s', J n s' → R (.ok .next) s')
    (h0 : J 0 s) (st0 : St 0 s.heap) :
    codeAny (model P w) A (.forLoop (.Name x px) (.ref I) body [] env) R s := by
  refine codeAny_forLoop_any (fun k s' => ∃ i, k = n + 1 - i ∧ i ≤ n ∧ J i s' ∧ St i s'.heap) ?_ (n + 1) ⟨0, rfl, Nat.zero_le _, h0, st0⟩
  rintro k s' ⟨i, rfl, hi, hj, hst⟩
  by_cases hlt : i < n
  · refine W.item i _ _ _ hlt hst fun v h' tk hP hst' hk => ?_
    refine wpAny_pure ?_
    refine calm (wpAny_mono (step i v { s' with heap := h', toks := tk } hlt hP (hJ _ _ _ _ hj hk) hst') (fun _ s₃ h₃ => ?_) fun _ _ x => x)
    refine calm (wpAny_mono h₃ (fun f s₄ h₄ => ?_) fun _ _ x => x)
    cases f with
    | next => exact ⟨_, by omega, i + 1, rfl, hlt, h₄⟩
    | cont => exact ⟨_, by omega, i + 1, rfl, hlt, h₄⟩
    | brk => exact h₄
    | ret v => exact h₄
  · have e : i = n := by omega
    subst e
    exact W.done _ _ _ hst fun h' tk hk => wpAny_execs_nil (fin _ (hJ _ _ _ _ hj hk))

theorem one_if {c : Expr} {Q : Bool → Shared → Prop} (h : wpAny (model P w) A (isTrue c env (eval c env)) Q E s) :
    wpAny (model P w) A (forIn [c] true fun c r => if r = true then do let ok ← isTrue c env (eval c env); pure (ForInStep.yield ok) else pure (ForInStep.yield r)) Q E s := by
  rw [List.forIn_cons]
  refine wpAny_bind ?_
  rw [if_pos rfl]
  refine wpAny_bind (wpAny_mono h (fun ok s₁ h₁ => wpAny_pure ?_) fun _ _ x => x)
  exact wpAny_pure h₁

theorem ne_ints {l l' : Addr} {ys ys' : List Value} {ns : List Int} {Q : Value → Shared → Prop} (hl : s.heap.IsList l ys.toArray) (hi : IntsAre ys ns) (hl' : s.heap.IsList l' ys'.toArray) (hi' : IntsAre ys' ns)
    (hu : A.units + 64 < cLine) (h : Q (.bool false) s) : wpAny (model P w) A (compareOp .NotEq (.ref l) (.ref l')) Q E s := by
  have sh : shaped (.list (ns.map PyData.int)) = true := by
    have h1 := PySem.W.depthAll_ints ns
    have h2 : PyData.depth (.list (ns.map PyData.int)) ≤ 64 := by simp only [PyData.depth]; omega
    show (PyData.canLay0 (.list (ns.map PyData.int)) && decide (PyData.depth (.list (ns.map PyData.int)) ≤ 64)) = true
    rw [Bool.and_eq_true]
    exact ⟨by simp [PyData.canLay0, PySem.W.canLayAll0_ints], decide_eq_true h2⟩
  refine ne_dataH (reads_of_ints hl hi) (reads_of_ints hl' hi') sh sh hu ?_
  have e : PyData.eqv (.list (ns.map PyData.int)) (.list (ns.map PyData.int)) = true := by simp [PyData.eqv, eqvAll_self]
  rw [e]
  exact h
end

def colAt (c : Int) (j : Nat) : Bool := (toldOf c).getD j false
def heldTo (cs : List Int) (j i : Nat) : List Int := ((List.range i).filter fun k => colAt (cs.getD k 0) j).map fun k : Nat => (k : Int)
theorem heldTo_succ (cs : List Int) (j i : Nat) : heldTo cs j (i + 1) = heldTo cs j i ++ (if colAt (cs.getD i 0) j = true then [(i : Int)] else []) := by
  unfold heldTo
  rw [List.range_succ, List.filter_append, List.map_append]
  congr 1
  show List.map _ (match colAt (cs.getD i 0) j with | true => [i] | false => []) = _
  cases colAt (cs.getD i 0) j <;> rfl
theorem heldTo_mem {cs : List Int} {j i : Nat} {x : Int} (h : x ∈ heldTo cs j i) : ∃ k : Nat, x = (k : Int) ∧ k < i ∧ colAt (cs.getD k 0) j = true := by
  unfold heldTo at h
  obtain ⟨k, hk, rfl⟩ := List.mem_map.mp h
  obtain ⟨h1, h2⟩ := List.mem_filter.mp hk
  exact ⟨k, rfl, List.mem_range.mp h1, h2⟩
theorem toldOf_len (c : Int) : (toldOf c).length = 7 := by unfold toldOf; split <;> rfl

section
variable {w : World} {A : Around} {E : Value → Shared → Prop} {s : Shared} {env : Env}

/-- y = [.. for x in .. if ..], y a local name of the same line -/
theorem compAssign {elt iter : Expr} {x y : Str} {px py : Pos} {ifs : List Expr} {scope : Scope} {cl : List (Str × Addr)} {pos spos : Pos} {Q : Flow → Shared → Prop}
    (hsw : swapsWith (.ListComp elt [⟨.Name x px, iter, ifs, 0⟩] scope pos) (some (.Name y py)) spos.line env = pure true)
    (hclos : closureFor scope env = pure cl) (hcell : ∀ y ∈ scope.names, y.2 ≠ .cell) (hkind : scope.kind = .function)
    (hnames : ∀ y ∈ scope.names, y.2 = .local → scope.names.lookup y.1 = some .local) (hx : scope.names.lookup x = some .local)
    (h : wpAny (model P w) A (eval iter env) (fun xv s₁ => wpAny (model P w) A (pyIter xv) (fun it s₂ => ∃ I fp wr n Pv St, it = .ref I ∧ Walks P w A I fp wr n Pv St ∧ n ≤ sizeLine ∧ St 0 s₂.heap ∧ (∀ b ∈ fp, b < s₂.heap.objs.size) ∧
      ∃ Inv : Nat → List Value → Heap → Prop, Inv 0 [] s₂.heap ∧
        (∀ i ys h h', Inv i ys h → (∀ (b : Nat) o, b < s₂.heap.objs.size ∨ s₂.heap.objs.size + 2 ≤ b → b ∉ wr → h.get? b = some o → h'.get? b = some o) → Inv i ys h') ∧
        (∀ i v ys s₃ m₃, Pv i v → ys.length ≤ i → s₃.heap.Ns (s₂.heap.objs.size + 1) m₃ → m₃ x = some v → Inv i ys s₃.heap → (∀ b o, b ∉ wr → s₂.heap.get? b = some o → s₃.heap.get? b = some o) →
          wpAny (model P w) A (forIn ifs true fun c r => if r = true then do let ok ← isTrue c (compEnvC scope cl (s₂.heap.objs.size + 1) env) (eval c (compEnvC scope cl (s₂.heap.objs.size + 1) env)); pure (ForInStep.yield ok) else pure (ForInStep.yield r))
            (fun ok s₄ => Kp s₃ s₄ ∧ if ok = true then wpAny (model P w) A (eval elt (compEnvC scope cl (s₂.heap.objs.size + 1) env)) (fun y s₅ => Kp s₄ s₅ ∧ Inv (i + 1) (ys ++ [y]) s₅.heap) (fun _ _ => False) s₄ else Inv (i + 1) ys s₄.heap)
            (fun _ _ => False) s₃) ∧
        (∀ s' ys, s'.heap.PlainList s₂.heap.objs.size ys.toArray → Inv n ys s'.heap → Ku wr s₂ s' → wpAny (model P w) A (storeName env y (.ref s₂.heap.objs.size)) (fun _ s'' => (∀ o, s'.heap.get? (s₂.heap.objs.size + 1) = some o → s''.heap.get? (s₂.heap.objs.size + 1) = some o) ∧
          ∀ h', Heap.SameBut (s₂.heap.objs.size + 1) s''.heap h' → Q .next { s'' with heap := h' }) E s')) E s₁) E s)
    (hs : ∀ x, foldedSetIterable iter env x = pure x := by intro _; rfl) :
    wpAny (model P w) A (exec (.Assign [.Name y py] (.ListComp elt [⟨.Name x px, iter, ifs, 0⟩] scope pos) spos) env) Q E s := by
  rw [exec_Assign_Name_used _ _ _ _ hsw]
  refine wpAny_bind (wpAny_standAt (wpAny_bind ?_))
  show wpAny _ A (do let _ ← comprehension (.ListComp elt [⟨.Name x px, iter, ifs, 0⟩] scope pos) scope env _ (newList []) false (eval iter env) (some (assign (.Name y py) env))) _ _ s
  refine wpAny_bind (wpAny_mono (wpAny_comprehension_free (use := some (assign (.Name y py) env)) (Q := fun _ s' => Q .next s') rfl hs hclos hkind hnames
    (wpAny_mono h (fun xv s₁ h₁ => wpAny_mono h₁ (fun it s₂ h₂ => ?_) fun _ _ e => e) fun _ _ e => e)) (fun _ s' hq => wpAny_pure (wpAny_pure hq)) fun _ _ e => e)
  obtain ⟨I, fp, wr, n, Pv, St, rfl, W, hsz, hst, hfp, Inv, i0, istab, turn, fin⟩ := h₂
  refine wpAny_newObj_type (wpAny_newFunctionEnv hcell (by intro y hy; simp at hy) (fun h₁ hns₁ hsb₁ => ?_) hkind)
  dsimp only at hns₁ hsb₁ ⊢
  generalize hD : s₂.heap.objs.size = D at *
  have hC : (s₂.heap.push { cls := .type "list", dict := none, data := .seq ([] : List Value).toArray }).objs.size = D + 1 := by rw [Heap.size_push, hD]
  rw [hC] at hns₁ hsb₁ ⊢
  have old : ∀ b o, s₂.heap.get? b = some o → h₁.get? b = some o := fun b o e => by
    have hb := ltA (Heap.lt_size e)
    rw [hD] at hb
    exact hsb₁.extBut b o (neA (by omega)) (Heap.get?_push_of_some _ (Heap.get?_push_of_some _ e))
  have hacc : h₁.PlainList D #[] := by
    have e : (s₂.heap.push { cls := .type "list", dict := none, data := .seq ([] : List Value).toArray }).get? D = some { cls := .type "list", dict := none, data := .seq ([] : List Value).toArray } := by
      rw [← hD]; exact Heap.get?_push_size _ rfl
    exact ⟨_, hsb₁.extBut D _ (neA (by omega)) (Heap.get?_push_of_some _ e)⟩
  have hDf : D ∉ fp := fun hm => Nat.lt_irrefl _ (hfp _ hm)
  have hCf : D + 1 ∉ fp := fun hm => by have := ltA (hfp _ hm); omega
  have hwl : ∀ b ∈ wr, b < D := fun b hb => hfp b (W.sub b hb)
  have hst₁ : St 0 h₁ := W.frame _ _ _ hst fun b _ o e => old b o e
  have loop : codeAny (model P w) A (.compLoop (.ListComp elt [⟨.Name x px, iter, ifs, 0⟩] scope pos) 0 (.ref I) (.ref D) (compEnvC scope cl (D + 1) env))
        (compPost (model P w) A E (some (assign (.Name y py) env)) (fun _ s' => Q .next s') (.ref D) (D + 1)) { s₂ with heap := h₁, toks := s₂.toks + ([] : List (Str × Value)).length } := by
    refine codeAny_compLoop_tests (fun k s' => ∃ i ys m', k = n + 1 - i ∧ i ≤ n ∧ St i s'.heap ∧ s'.heap.PlainList D ys.toArray ∧ ys.length ≤ i ∧ s'.heap.Ns (D + 1) m' ∧ Inv i ys s'.heap ∧ Ku (D :: (D + 1) :: wr) { s₂ with heap := h₁ } s')
      ?_ (n + 1) ⟨0, [], _, rfl, Nat.zero_le _, hst₁, hacc, Nat.le_refl _, hns₁, istab _ _ _ _ i0 (fun b o _ _ e => old b o e), Ku.refl _ _⟩
    rintro k s' ⟨i, ys, m', rfl, hi, hst', hpl, hlen, hns, hinv, hku⟩
    have oldK : ∀ b o, b ∉ wr → s₂.heap.get? b = some o → s'.heap.get? b = some o := fun b o hb e => by
      have hlt := ltA (Heap.lt_size e)
      rw [hD] at hlt
      exact hku.keep b o (by simp only [List.mem_cons, not_or]; exact ⟨neA (by omega), neA (by omega), hb⟩) (old b o e)
    by_cases hlt : i < n
    · refine W.item i _ _ _ hlt hst' fun v h₂ tk₂ hP hst₂ hk₂ => ?_
      have hDw : D ∉ wr := fun hm => Nat.lt_irrefl _ (hwl _ hm)
      have hCw : D + 1 ∉ wr := fun hm => by have := ltA (hwl _ hm); omega
      refine wpAny_assign_Name (wpAny_storeName_local (env := compEnvC scope cl (D + 1) env) (lookup_relabel_local hx) (hns.at' fun o e => hk₂ _ o hCw e) (fun h₃ hn₃ hs₃ => ?_) (by simp [compEnvC, relabel, hkind]))
      have k3 : ∀ b o, b ≠ D + 1 → b ∉ wr → s'.heap.get? b = some o → h₃.get? b = some o := fun b o h1 h2 e => hs₃.extBut b o h1 (hk₂ b o h2 e)
      have hpl₃ : h₃.PlainList D ys.toArray := hpl.at fun o e => k3 D o (neA (by omega)) hDw e
      have hst₃ : St (i + 1) h₃ := W.frame _ _ _ hst₂ fun b hb o e => hs₃.extBut b o (fun h : b = D + 1 => hCf (h ▸ hb)) e
      have hinv₃ : Inv i ys h₃ := istab _ _ _ _ hinv fun b o hb hw e => k3 b o (neA (by omega)) hw e
      have ku₃ : Ku (D :: (D + 1) :: wr) { s₂ with heap := h₁ } { s' with heap := h₃, toks := tk₂ + 1 } := hku.heap fun b o hb e => by
        simp only [List.mem_cons, not_or] at hb
        exact k3 b o hb.2.1 hb.2.2 e
      refine calm (wpAny_mono (turn i v ys { s' with heap := h₃, toks := tk₂ + 1 } _ hP hlen hn₃ (by simp) hinv₃ (fun b o hb e => by
        have hlt := ltA (Heap.lt_size e)
        rw [hD] at hlt
        exact k3 b o (neA (by omega)) hb (oldK b o hb e))) (fun ok s₄ h₄ => ?_) fun _ _ x => x)
      obtain ⟨K₄, h₄⟩ := h₄
      cases ok with
      | false =>
        rw [if_neg Bool.false_ne_true] at h₄ ⊢
        exact ⟨_, by omega, i + 1, ys, _, rfl, hlt, W.frame _ _ _ hst₃ (fun b _ o e => K₄.keep b o e), hpl₃.at (fun o e => K₄.keep _ o e), by omega, hn₃.keeps K₄.keep, h₄, ku₃.trans (K₄.ku _)⟩
      | true =>
        rw [if_pos rfl] at h₄ ⊢
        refine calm (wpAny_mono h₄ (fun y s₅ h₅ => ?_) fun _ _ x => x)
        obtain ⟨K₅, hinv₅⟩ := h₅
        have K₃₅ : ∀ b o, h₃.get? b = some o → s₅.heap.get? b = some o := fun b o e => K₅.keep _ _ (K₄.keep _ _ e)
        refine wpAny_list_append_plain (hpl₃.at fun o e => K₃₅ _ o e) (fun h₆ hpl₆ hs₆ => ?_) (by rw [List.size_toArray]; omega)
        refine ⟨_, by omega, i + 1, ys ++ [y], (fun z => if z = x then some v else m' z), rfl, hlt, ?_, ?_, ?_, ?_, ?_, ?_⟩
        · exact W.frame _ _ _ hst₃ fun b hb o e => hs₆.extBut b o (fun h : b = D => hDf (h ▸ hb)) (K₃₅ _ _ e)
        · have e : ys.toArray.push y = (ys ++ [y]).toArray := by simp
          rw [← e]; exact hpl₆
        · simp; omega
        · exact (hn₃.keeps K₃₅).at' fun o e => hs₆.extBut (D + 1) o (neA (by omega)) e
        · exact istab _ _ _ _ hinv₅ fun b o hb _ e => hs₆.extBut b o (neA (by omega)) e
        · have := (ku₃.trans (K₄.ku _)).trans (K₅.ku _)
          exact ⟨fun b o hb e => hs₆.extBut b o (fun h => hb (by simp [h])) (this.keep b o hb e), this.os, this.bare⟩
    · have e : i = n := by omega
      subst e
      refine W.done _ _ _ hst' fun h₂ tk₂ hk₂ => ?_
      have hDw : D ∉ wr := fun hm => Nat.lt_irrefl _ (hwl _ hm)
      have hCw : D + 1 ∉ wr := fun hm => by have := ltA (hwl _ hm); omega
      show wpAny _ A (assign (.Name y py) env (.ref D)) _ _ _
      refine wpAny_assign_Name (wpAny_mono (fin { s' with heap := h₂, toks := tk₂ } ys ?_ ?_ ?_) (fun _ s'' hq => ⟨m', (hns.at' fun o e => hk₂ _ o hCw e).at' hq.1, hq.2⟩) fun _ _ x => x)
      · exact hpl.at fun o e => hk₂ D o hDw e
      · exact istab _ _ _ _ hinv fun b o hb hw e => hk₂ b o hw e
      · exact ⟨fun b o hb e => hk₂ b o hb (oldK b o hb e), hku.os, hku.bare⟩
  exact codeAny_compStart_list loop (W.self 0 _ _ _ hst₁ loop)
end
end Mine
end

section
open PySem PySem.W PyProof.Rows PySem.SeqAt
set_option maxRecDepth 100000
namespace Mine

theorem ltZ {a b : Int} (h : a < b) : a < b := h

section
variable {w : World} {A : Around} {E : Value → Shared → Prop} {s s₀ : Shared} {mg mb : Str → Option Value} {L a : Addr} {cd : Value} {m : Str → Option Value} {base : Heap} {c1 c2 c3 c4 : Option Value} {env : Env}

/-- told[k][column], in any frame that sees both -/
theorem told_at {e1 e2 e3 : Expr} {p1 p2 : Pos} {tA : Addr} {cs : List Int} {k j : Nat} {t1 t2 : Tok} {Q : Value → Shared → Prop} (T : ToldAt L s.heap tA cs) (hk : k < cs.length) (hk' : k < 4096) (hj : j < 7)
    (x1 : ∀ Q' : Value → Shared → Prop, Q' (.ref tA) s → wpAny (model P w) A (eval e1 env) Q' E s)
    (x2 : ∀ Q' : Value → Shared → Prop, Q' (.int (k : Int) t1) s → wpAny (model P w) A (eval e2 env) Q' E s)
    (x3 : ∀ Q' : Value → Shared → Prop, Q' (.int (j : Int) t2) s → wpAny (model P w) A (eval e3 env) Q' E s)
    (h : Q (.bool (colAt (cs.getD k 0) j)) s)
    (h1 : ∀ o i, subscripted e2 false o i = operate [o, i] (getItem o i) := by intro _ _; rfl) (h2 : ∀ o i, subscripted e3 false o i = operate [o, i] (getItem o i) := by intro _ _; rfl) :
    wpAny (model P w) A (eval (.Subscript (.Subscript e1 e2 p1) e3 p2) env) Q E s := by
  obtain ⟨vs, a1, a2, a3, a4⟩ := T
  have hv : k < vs.length := by omega
  obtain ⟨r, c, b1, b2, b3, b4⟩ := a4 k vs[k] (by simp [hv])
  have hc : cs.getD k 0 = c := by simp [List.getD, b2]
  refine itemL (itemL (x1 _ (x2 _ ⟨tA, vs.toArray, (k : Int), t1, .ref r, rfl, rfl, a1, by omega, by omega, by simp [hv, b1], ?_⟩)) h1) h2
  refine x3 _ ⟨r, _, (j : Int), t2, .bool (colAt (cs.getD k 0) j), rfl, rfl, b4, by omega, by omega, ?_, h⟩
  rw [hc]
  unfold colAt
  have := toldOf_len c
  simp [List.getD, show j < (toldOf c).length by omega]

/-- a comprehension's test of told[k][column] against a written truth -/
theorem test_told {e1 e2 e3 : Expr} {p1 p2 p3 p4 : Pos} {d : Bool} {kd : Nat} {tA : Addr} {cs : List Int} {k j : Nat} {t1 t2 : Tok} {Q : Bool → Shared → Prop} (T : ToldAt L s.heap tA cs) (hk : k < cs.length) (hk' : k < 4096) (hj : j < 7)
    (x1 : ∀ Q' : Value → Shared → Prop, Q' (.ref tA) s → wpAny (model P w) A (eval e1 env) Q' E s)
    (x2 : ∀ Q' : Value → Shared → Prop, Q' (.int (k : Int) t1) s → wpAny (model P w) A (eval e2 env) Q' E s)
    (x3 : ∀ Q' : Value → Shared → Prop, Q' (.int (j : Int) t2) s → wpAny (model P w) A (eval e3 env) Q' E s)
    (h : Q (colAt (cs.getD k 0) j != d) s)
    (h1 : ∀ o i, subscripted e2 false o i = operate [o, i] (getItem o i) := by intro _ _; rfl) (h2 : ∀ o i, subscripted e3 false o i = operate [o, i] (getItem o i) := by intro _ _; rfl) :
    wpAny (model P w) A (isTrue (.Compare (.Subscript (.Subscript e1 e2 p1) e3 p2) [.IsNot] [.Constant (.bool d) kd p3] p4) env (eval (.Compare (.Subscript (.Subscript e1 e2 p1) e3 p2) [.IsNot] [.Constant (.bool d) kd p3] p4) env)) Q E s :=
  wpAny_isTrue_Compare1 (told_at T hk hk' hj x1 x2 x3 (Constant_bool (isnot_bool (wpAny_truthy_bool h))) h1 h2) (by rfl)

theorem Walks.bound {I : Addr} {fp wr : List Addr} {n : Nat} {Pv : Nat → Value → Prop} {St : Nat → Heap → Prop} (W : Walks P w A I fp wr n Pv St) : Walks P w A I fp wr n (fun i v => i < n ∧ Pv i v) St :=
  { W with item := fun i s Q E hi st hQ => W.item i s Q E hi st fun v h' tk hP => hQ v h' tk ⟨hi, hP⟩ }

theorem RF.low {h h' : Heap} (F : RF L h m c1 c2 c3 c4) (k : ∀ b o, b < L + 5 → h.get? b = some o → h'.get? b = some o) : RF L h' m c1 c2 c3 c4 := by
  have cell : ∀ {c v}, c < L + 5 → h.IsCell c v → h'.IsCell c v := fun hc ⟨o, e, hd⟩ => ⟨o, k _ o hc e, hd⟩
  exact ⟨F.ns.at' fun o e => k _ o (ltA (by omega)) e, cell (ltA (by omega)) F.start, cell (ltA (by omega)) F.step, cell (ltA (by omega)) F.told, cell (ltA (by omega)) F.column⟩

def colBody : List Stmt := match (dBod (stAt 21)).drop 14 with
  | .For _ _ b _ _ :: _ => b
  | _ => []

set_option maxHeartbeats 1000000 in
/-- held = [k for k in range(len(marks)) if told[k][column] is not False] -/
theorem ruler_E1 {n : Int} {T sA mA tA : Addr} {vs ms : List Value} {Q : Flow → Shared → Prop} {t1 t2 t3 : Tok} {j : Nat} (B : Base w mg mb base) (Rm : Room A 3 70)
    (hL : L = s₀.heap.objs.size) (hj : j < 7)
    (F : RF L s.heap m (some (.int (rStart n) t1)) (some (.int (rStep n) t2)) (some (.ref tA)) (some (.int (j : Int) t3))) (K : Kr base s₀ s) (R : RB n L T m s.heap sA mA vs ms) (Tl : ToldAt L s.heap tA (rMarks n))
    (next : ∀ s' m' hA hs, RF L s'.heap m' (some (.int (rStart n) t1)) (some (.int (rStep n) t2)) (some (.ref tA)) (some (.int (j : Int) t3)) → Kr base s₀ s' → RB n L T m' s'.heap sA mA vs ms → ToldAt L s'.heap tA (rMarks n) →
      m' "held" = some (.ref hA) → s'.heap.IsList hA hs.toArray → IntsAre hs (heldTo (rMarks n) j (rMarks n).length) → L + 5 ≤ hA → (∀ b o, L + 5 ≤ b → s.heap.get? b = some o → s'.heap.get? b = some o) →
      wpAny (model P w) A (execs (colBody.drop 1) (rEnv L a cd)) Q E s') :
    wpAny (model P w) A (execs colBody (rEnv L a cd)) Q E s := by
  have hT := RF.top F
  have hT' := ltA hT
  have B1 : Base w mg mb s.heap := B.keeps K.stays
  have hml : ms.length = (rMarks n).length := R.mints.length
  have hml' : (rMarks n).length ≤ 12 := by rw [marks_len]; have := last_range n; omega
  refine wpAny_execs_cons ?_
  refine compAssign (cl := [("told", L + 3), ("column", L + 4)]) (by rfl) (by rfl) (by decide) (by rfl) (by decide) (by rfl) ?_
  refine rangeG (n := ((rMarks n).length : Int)) B1 (by omega) (by omega) (fun Q' hq => ?_) fun It tkD hD kD hsz hIt hri => ?_
  · refine callBE (id := "len") B1 (by decide) (by rfl) ?_
    refine wpAny_items_cons (ldR F R.marks (wpAny_items_nil ?_))
    refine len_list R.mlist (by rw [List.size_toArray, hml]; omega) ?_
    rw [List.size_toArray, hml]
    exact hq _ _
  have hN : (((rMarks n).length : Int)).toNat = (rMarks n).length := by omega
  rw [hN] at hri
  dsimp only at hD kD hsz hIt hri ⊢
  have hIt' := leA hIt
  refine ⟨It, [It], [It], (rMarks n).length, _, _, rfl, (Walks.range Rm.handled It 0 1 (rMarks n).length).bound, by show _ ≤ 2 ^ 24; omega, hri, ?_,
    fun i zs _ => IntsAre zs (heldTo (rMarks n) j i), IntsAre.nil, fun _ _ _ _ x _ => x, ?_, ?_⟩
  · intro b hb
    simp only [List.mem_singleton] at hb
    show b < hD.objs.size
    rw [hb, hsz]; exact Nat.lt_succ_self _
  · rintro i v zs s₃ m₃ ⟨hi, tv, rfl⟩ hlz hn₃ hm₃ hz hk
    rw [show (0 + (i : Int) * 1) = (i : Int) by omega] at hm₃
    have kk : ∀ b o, s.heap.get? b = some o → s₃.heap.get? b = some o := fun b o e => hk b o (by
      simp only [List.mem_singleton]; exact neA (by have := ltA (Heap.lt_size e); omega)) (kD b o e)
    have cT : s₃.heap.IsCell (L + 3) (some (.ref tA)) := let ⟨o, e, hd⟩ := F.told; ⟨o, kk _ o e, hd⟩
    have cC : s₃.heap.IsCell (L + 4) (some (.int (j : Int) t3)) := let ⟨o, e, hd⟩ := F.column; ⟨o, kk _ o e, hd⟩
    refine one_if (test_told (k := i) (j := j) (t1 := tv) (t2 := t3) (Tl.keeps fun b o _ e => kk b o e) hi (by omega) hj (fun Q' q => ldCE cT q) (fun Q' q => ldE hn₃ hm₃ q) (fun Q' q => ldCE cC q) ⟨Kp.refl _, ?_⟩)
    dsimp only
    rw [heldTo_succ]
    cases c : colAt ((rMarks n).getD i 0) j with
    | true =>
      rw [show (true != false) = true from rfl, if_pos rfl, if_pos rfl]
      exact ldE hn₃ hm₃ ⟨Kp.refl _, hz.append (.cons _ _ .nil)⟩
    | false =>
      rw [show (false != false) = false from rfl, if_neg Bool.false_ne_true, if_neg Bool.false_ne_true, List.append_nil]
      exact hz
  · intro s₄ zs hpz hz Ku4
    have k4 : ∀ b o, s.heap.get? b = some o → s₄.heap.get? b = some o := fun b o e => Ku4.keep b o (by
      simp only [List.mem_singleton]; exact neA (by have := ltA (Heap.lt_size e); omega)) (kD b o e)
    have K4 : Kr base s₀ s₄ := ⟨K.low, fun b o e => k4 b o (K.stays b o e), K.up.trans (.of_keeps k4), Ku4.os.trans K.os, fun hb => Ku4.bare (K.bare hb)⟩
    refine stR hL (F.keeps k4) K4 fun h5 tk5 F5 K5 k5 => ⟨fun o e => k5 _ o (neA (by omega)) e, fun h6 hs6 => ?_⟩
    have hDI : hD.objs.size = It + 1 := hsz
    have k6 : ∀ b o, b < hD.objs.size → h5.get? b = some o → h6.get? b = some o := fun b o hb e => hs6.extBut b o (neA (by have := ltA hb; omega)) e
    have k6' : ∀ b o, L + 5 ≤ b → s.heap.get? b = some o → h6.get? b = some o := fun b o hb e => k6 b o (ltA (by have := ltA (Heap.lt_size e); omega)) (k5 b o (neA (by have := leA hb; omega)) (k4 b o e))
    have R5 := R.off k6'
    have F6 := F5.low fun b o hb e => k6 b o (ltA (by have := ltA hb; omega)) e
    refine next _ _ hD.objs.size zs F6 (K5.heap fun b o hb e => k6 b o (ltA (by have := ltA hb; have := eqA hL; omega)) e) ⟨R5.sizes, R5.slist, R5.sints, R5.soff, R5.marks, R5.mlist, R5.mints, R5.moff, R5.first, R5.last, R5.tables⟩ (Tl.keeps k6') (by rfl)
      ((hpz.isList.at fun o e => k5 _ o (neA (by omega)) e).at fun o e => hs6.extBut _ o (neA (by omega)) e) hz (leA (by omega)) k6'
end
end Mine
end

section
open PySem PySem.W PyProof.Rows PySem.SeqAt
set_option maxRecDepth 100000
namespace Mine

theorem allRuns_ok : ∀ rs ∈ allRuns, rs.length ≤ 20 ∧ ∀ r ∈ rs, 0 ≤ r.1 ∧ r.1 ≤ 2000000 ∧ 0 ≤ r.2 ∧ r.2 ≤ 2000000 := by decide
theorem allRuns_len : allRuns.length = 7 := by decide

section
variable {w : World} {A : Around} {E : Value → Shared → Prop} {s s₀ : Shared} {mg mb : Str → Option Value} {L a : Addr} {cd : Value} {m : Str → Option Value} {base : Heap} {c1 c2 c3 c4 : Option Value} {env : Env}

set_option maxHeartbeats 1000000 in
/-- if held != _law_by_division(tables[column], first, start, step, last): return False -/
theorem ruler_E2 {n : Int} {T sA mA tA hA : Addr} {vs ms hs : List Value} {Q : Flow → Shared → Prop} {t1 t2 t3 : Tok} {j : Nat} (B : Base w mg mb base) (TA : TablesAt base T allRuns) (Rm : Room A 3 70)
    (hL : L = s₀.heap.objs.size) (hj : j < 7) (hD : ∀ rs, allRuns[j]? = some rs → divOf (rFirst n) (rStart n) (rStep n) (rLast n) rs = heldTo (rMarks n) j (rMarks n).length)
    (hstart : rStart n ≤ 2000000)
    (F : RF L s.heap m (some (.int (rStart n) t1)) (some (.int (rStep n) t2)) (some (.ref tA)) (some (.int (j : Int) t3))) (K : Kr base s₀ s) (R : RB n L T m s.heap sA mA vs ms)
    (hm : m "held" = some (.ref hA)) (hl : s.heap.IsList hA hs.toArray) (hi : IntsAre hs (heldTo (rMarks n) j (rMarks n).length))
    (next : ∀ s', Kp s s' → wpAny (model P w) A (execs (colBody.drop 2) (rEnv L a cd)) Q E s') :
    wpAny (model P w) A (execs (colBody.drop 1) (rEnv L a cd)) Q E s := by
  have hu : A.units + 64 < cLine := by have := Rm.units; omega
  have B1 : Base w mg mb s.heap := B.keeps K.stays
  obtain ⟨fd, Fd⟩ := B1.f20
  obtain ⟨tvs, q1, q2, q3⟩ := TA.keeps K.stays
  have hj' : j < tvs.length := by rw [q2, allRuns_len]; exact hj
  obtain ⟨rl, rs, b1, b2, b3⟩ := q3 j tvs[j] (by simp [hj'])
  have hok := allRuns_ok rs (List.mem_of_getElem? b2)
  obtain ⟨t4, r4⟩ := R.first
  obtain ⟨t5, r5⟩ := R.last
  have h1 := step_range n
  have h2 := last_range n
  have h3 := start_range n
  refine wpAny_execs_cons (wpAny_If (wpAny_isTrue_Compare1 (ldR F hm ?_)))
  refine callFE B1 Fd (wpAny_items_cons (itemL (ldR F R.tables (ldCE F.column ⟨T, tvs.toArray, (j : Int), t3, .ref rl, rfl, rfl, q1, by omega, by omega, by simp [hj', b1], ?_⟩))))
  refine wpAny_items_cons (ldR F r4 (wpAny_items_cons (ldCE F.start (wpAny_items_cons (ldCE F.step (wpAny_items_cons (ldR F r5 (wpAny_items_nil ⟨fun _ _ e => e, ?_⟩))))))))
  refine div_spec (rs := rs) B1 (Rm.less (by omega) (by omega)) Fd b3 hok.1 (by omega) (by omega) (by omega) (by omega) (by omega) (by omega) hok.2 fun s2 l ys K2 p2 i2 _ => ?_
  rw [hD rs b2] at i2
  refine ne_ints (hl.at fun o e => K2.keep _ o e) hi p2.isList i2 hu (wpAny_truthy_bool ?_)
  rw [if_neg Bool.false_ne_true]
  exact wpAny_execs_nil (next s2 K2)

set_option maxHeartbeats 1000000 in
/-- if [k for k in held if told[k][column] is not True] != []: return False -/
theorem ruler_E3 {n : Int} {T tA hA : Addr} {hs : List Value} {Q : Flow → Shared → Prop} {t3 : Tok} {j : Nat} (Rm : Room A 3 70) (hj : j < 7)
    (F : RF L s.heap m c1 c2 (some (.ref tA)) (some (.int (j : Int) t3))) (Tl : ToldAt L s.heap tA (rMarks n))
    (hm : m "held" = some (.ref hA)) (hl : s.heap.IsList hA hs.toArray) (hi : IntsAre hs (heldTo (rMarks n) j (rMarks n).length))
    (next : ∀ s', Kp s s' → Q .next s') :
    wpAny (model P w) A (execs (colBody.drop 2) (rEnv L a cd)) Q E s := by
  have hu : A.units + 64 < cLine := by have := Rm.units; omega
  have hml' : (rMarks n).length ≤ 12 := by rw [marks_len]; have := last_range n; omega
  have hhs : hs.length ≤ 12 := by
    rw [hi.length]
    unfold heldTo
    rw [List.length_map]
    exact Nat.le_trans (List.length_filter_le _ _) (by rw [List.length_range]; exact hml')
  have hmlt : hA < s.heap.objs.size := by obtain ⟨o, e, _⟩ := hl; exact Heap.lt_size e
  refine wpAny_execs_cons (wpAny_If (wpAny_isTrue_Compare1 ?_))
  refine listcomp (cl := [("told", L + 3), ("column", L + 4)]) (by rfl) (by decide) (by rfl) (by decide) (by rfl) ?_
  refine ldR F hm (wpAny_pyIter_list hl ?_)
  dsimp only
  have kI : ∀ b o, s.heap.get? b = some o → (s.heap.push { cls := .type "list_iterator", data := .fields #[.ref hA, .int 0 0] }).get? b = some o := fun b o e => Heap.get?_push_of_some _ e
  have hIi : (s.heap.push { cls := .type "list_iterator", data := .fields #[.ref hA, .int 0 0] }).IsListIter s.heap.objs.size hA 0 := ⟨_, Heap.get?_push_size _ rfl, rfl, rfl⟩
  have hsz : (s.heap.push { cls := .type "list_iterator", data := .fields #[.ref hA, .int 0 0] }).objs.size = s.heap.objs.size + 1 := Heap.size_push ..
  generalize (s.heap.push { cls := .type "list_iterator", data := .fields #[.ref hA, .int 0 0] }) = hI at *
  rw [hsz]
  generalize hIe : s.heap.objs.size = I at *
  refine ⟨I, [I, hA], [I], hs.toArray.size, _, _, rfl, Walks.list Rm.handled I hA (Nat.ne_of_lt hmlt) hs.toArray, by rw [List.size_toArray]; show _ ≤ 2 ^ 24; omega, ⟨hIi, hl.at fun o e => kI _ o e⟩, ?_,
    fun i ys h => ys = [], rfl, fun _ _ _ _ x _ => x, ?_, ?_⟩
  · intro b hb
    simp only [List.mem_cons, List.not_mem_nil, or_false] at hb
    rcases hb with rfl | rfl
    · exact Nat.lt_succ_self _
    · exact Nat.lt_succ_of_lt hmlt
  · rintro i v ys s₃ m₃ hv hlen hn₃ hm₃ rfl hk
    have kk : ∀ b o, s.heap.get? b = some o → s₃.heap.get? b = some o := fun b o e => hk b o (by
      simp only [List.mem_singleton]
      exact Nat.ne_of_lt (hIe ▸ Heap.lt_size e)) (kI b o e)
    have hi' : i < hs.length := by
      rcases Nat.lt_or_ge i hs.length with h | h
      · exact h
      · simp only [List.getElem?_toArray] at hv; rw [List.getElem?_eq_none h] at hv; cases hv
    obtain ⟨tc, hc, _⟩ := ints_at hi (i := i) (by omega)
    have hl' : i < (heldTo (rMarks n) j (rMarks n).length).length := by rw [← hi.length]; exact hi'
    have hcm : (heldTo (rMarks n) j (rMarks n).length)[i]? = some ((heldTo (rMarks n) j (rMarks n).length).getD i 0) := by simp [List.getD, hl']
    have ev : v = .int ((heldTo (rMarks n) j (rMarks n).length).getD i 0) tc := by
      simp only [List.getElem?_toArray] at hv
      rw [hv] at hc
      exact Option.some.inj hc
    subst ev
    obtain ⟨k, e1, e2, e3⟩ := heldTo_mem (List.mem_of_getElem? hcm)
    rw [e1] at hm₃
    have cT : s₃.heap.IsCell (L + 3) (some (.ref tA)) := let ⟨o, e, hd⟩ := F.told; ⟨o, kk _ o e, hd⟩
    have cC : s₃.heap.IsCell (L + 4) (some (.int (j : Int) t3)) := let ⟨o, e, hd⟩ := F.column; ⟨o, kk _ o e, hd⟩
    refine one_if (test_told (k := k) (j := j) (t1 := tc) (t2 := t3) (Tl.keeps fun b o _ e => kk b o e) e2 (by omega) hj (fun Q' q => ldCE cT q) (fun Q' q => ldE hn₃ hm₃ q) (fun Q' q => ldCE cC q) ⟨Kp.refl _, ?_⟩)
    rw [e3, show (true != true) = false from rfl, if_neg Bool.false_ne_true]
  · rintro s₅ ys hpl rfl Ku5
    have k5 : ∀ b o, s.heap.get? b = some o → s₅.heap.get? b = some o := fun b o e => Ku5.keep b o (by
      simp only [List.mem_singleton]
      exact Nat.ne_of_lt (hIe ▸ Heap.lt_size e)) (kI b o e)
    refine wpAny_List (wpAny_items_nil ⟨Nat.zero_le _, ?_⟩)
    refine ne_ints (ys := []) (ys' := []) (ns := []) (hpl.isList.at fun o e => Heap.get?_push_of_some _ e) .nil isList_push .nil hu (wpAny_truthy_bool ?_)
    rw [if_neg Bool.false_ne_true]
    refine wpAny_execs_nil (wpAny_execs_nil (next _ ⟨fun b o e => Heap.get?_push_of_some _ (k5 b o e), Ku5.os, Ku5.bare⟩))
end
end Mine
end

section
open PySem PySem.W PyProof.Rows PySem.SeqAt
set_option maxRecDepth 100000
namespace Mine

section
variable {w : World} {A : Around} {E : Value → Shared → Prop} {s s₀ : Shared} {mg mb : Str → Option Value} {L a : Addr} {cd : Value} {m : Str → Option Value} {base : Heap} {c1 c2 c3 c4 : Option Value} {env : Env}

set_option maxHeartbeats 1000000 in
/-- for column in range(7): ..; return True -/
theorem ruler_E {n : Int} {T sA mA tA : Addr} {vs ms : List Value} {Q : Flow → Shared → Prop} {t1 t2 : Tok} (B : Base w mg mb base) (TA : TablesAt base T allRuns) (Rm : Room A 3 70)
    (hL : L = s₀.heap.objs.size) (hD : ∀ j rs, allRuns[j]? = some rs → divOf (rFirst n) (rStart n) (rStep n) (rLast n) rs = heldTo (rMarks n) j (rMarks n).length)
    (F : RF L s.heap m (some (.int (rStart n) t1)) (some (.int (rStep n) t2)) (some (.ref tA)) c4) (K : Kr base s₀ s) (R : RB n L T m s.heap sA mA vs ms) (Tl : ToldAt L s.heap tA (rMarks n))
    (next : ∀ s', Kr base s₀ s' → Q (.ret (.bool true)) s') :
    wpAny (model P w) A (execs ((dBod (stAt 21)).drop 14) (rEnv L a cd)) Q E s := by
  have hT := RF.top F
  have hT' := ltA hT
  have B1 : Base w mg mb s.heap := B.keeps K.stays
  have hsr := start_range n
  refine wpAny_execs_cons (wpAny_For ?_)
  refine rangeG (n := 7) B1 (by decide) (by decide) (fun Q' hq => wpAny_Constant_int (hq _ _)) fun It tkD hD' kD hsz hIt hri => ?_
  have hIt' := leA hIt
  refine forLoop_walks (s := { s with heap := hD', toks := tkD }) (n := 7) (Walks.range Rm.handled It 0 1 7)
    (fun i s' => ∃ m' c4', RF L s'.heap m' (some (.int (rStart n) t1)) (some (.int (rStep n) t2)) (some (.ref tA)) c4' ∧ Kr base s₀ s' ∧ (∀ b o, L + 5 ≤ b → s.heap.get? b = some o → s'.heap.get? b = some o) ∧ RB n L T m' s.heap sA mA vs ms) ?hJ ?step ?fin ?h0 hri
  case hJ =>
    rintro i s' h' tk ⟨m', c4', F1, K1, k1, R1⟩ hk
    have ne : ∀ {b : Addr}, b < s.heap.objs.size → b ∉ [It] := fun hb => by
      simp only [List.mem_singleton]
      exact neA (by have := ltA hb; omega)
    refine ⟨m', c4', F1.low fun b o hb e => hk b o (ne (ltA (by have := ltA hb; omega))) e, K1.heap fun b o hb e => hk b o (ne (ltA (by have := ltA hb; have := eqA hL; omega))) e, fun b o hb e => hk b o (ne (Heap.lt_size e)) (k1 b o hb e), R1⟩
  case h0 => exact ⟨m, c4, F.keeps kD, K.heap fun b o _ e => kD b o e, fun b o _ e => kD b o e, R⟩
  case fin =>
    rintro s' ⟨m', c4', F1, K1, k1, R1⟩
    exact wpAny_execs_cons (wpAny_Return_some (Constant_bool (next s' K1)))
  case step =>
    rintro i v s₁ hi ⟨tv, rfl⟩ ⟨m', c4', F1, K1, k1, R1⟩ st1
    rw [show (0 + (i : Int) * 1) = (i : Int) by omega]
    refine wpAny_assign_Name (stColumn hL F1 K1 fun h2 F2 K2 k2 => ?_)
    have k2' : ∀ b o, L + 5 ≤ b → s₁.heap.get? b = some o → h2.get? b = some o := fun b o hb e => k2 b o (neA (by have := leA hb; omega)) e
    have hItL : L + 5 ≤ It := leA (by omega)
    have hrs : ∃ rs, allRuns[i]? = some rs := ⟨allRuns[i]'(by rw [allRuns_len]; exact hi), by rw [List.getElem?_eq_getElem]⟩
    refine ruler_E1 (s := { s₁ with heap := h2 }) B Rm hL hi F2 K2 (R1.off fun b o hb e => k2' b o hb (k1 b o hb e)) (Tl.keeps fun b o hb e => k2' b o hb (k1 b o hb e)) fun s3 m3 hA hs F3 K3 R3 Tl3 m3h l3 i3 hA5 k3 => ?_
    refine ruler_E2 B TA Rm hL hi (fun rs hrs => hD i rs hrs) (by omega) F3 K3 R3 m3h l3 i3 fun s4 K4 => ?_
    refine ruler_E3 (n := n) (T := T) Rm hi (F3.keeps K4.keep) (Tl3.keeps fun b o _ e => K4.keep b o e) m3h (l3.at fun o e => K4.keep _ o e) i3 fun s5 K5 => ?_
    have K45 := K4.trans K5
    refine ⟨⟨m3, _, F3.keeps K45.keep, K3.kp K45, fun b o hb e => K45.keep b o (k3 b o hb (k2' b o hb (k1 b o hb e))), ⟨R3.sizes, R.slist, R3.sints, R3.soff, R3.marks, R.mlist, R3.mints, R3.moff, R3.first, R3.last, R3.tables⟩⟩, ?_⟩
    exact K45.keep It _ (k3 It _ hItL (k2' It _ hItL st1))

set_option maxHeartbeats 1000000 in
theorem ruler_spec {n : Int} {tn : Tok} {T fA : Addr} {fvs : List Value} {outer : List Env} {Q : Value → Shared → Prop} (K : Below A base outer s.heap) (B : Base w mg mb base) (TA : TablesAt base T allRuns)
    (hfA : base.IsList fA fvs.toArray) (hfi : IntsAre fvs firstsL) (Rm : Room A 4 80) (Fn : FnAt base mg "_law_ruler_is_right" 21 a)
    (hM : marksOf (rSizes n) = rMarks n) (hD : ∀ j rs, allRuns[j]? = some rs → divOf (rFirst n) (rStart n) (rStep n) (rLast n) rs = heldTo (rMarks n) j (rMarks n).length)
    (h : ∀ s', base.StaysIn s'.heap → s.heap.UpToSlots s'.heap → s'.os = s.os → (AllBare s.gens → AllBare s'.gens) → Q (.bool true) s') :
    wpAny (model P w) A (call (.ref a) [.int n tn, .ref T, .ref fA]) Q E s := by
  refine enterR (B.keeps K.stays) Rm (Fn.keeps K.stays) fun cd h₁ tk F k₁ => ?_
  have R' : Room (A.deeper (rEnv s.heap.objs.size a cd)) 3 70 := (Rm.less (d' := 4) (u' := 73) (by omega) (by omega)).deeper _
  have K1 : Kr base s { s with heap := h₁, toks := tk } := ⟨K.stays, fun b o e => k₁ b o (K.stays b o e), .of_keeps k₁, rfl, id⟩
  have hfr : (A.deeper (rEnv s.heap.objs.size a cd)).frames = some (rEnv s.heap.objs.size a cd :: outer) := Around.frames_deeper K.stack
  refine calm (ruler_A (s := { s with heap := h₁, toks := tk }) (n := n) (tn := tn) (T := T) rfl hfA hfi F K1 (by rfl) (by rfl) (by rfl) fun s2 m2 F2 K2 R2 => ?_)
  refine ruler_B1 rfl F2 K2 R2 fun s3 m3 sA vs F3 K3 R3 z1 z2 z3 z4 => ?_
  refine ruler_B2 B (R'.less (by omega) (by omega)) rfl F3 K3 R3 z1 z2 z3 z4 fun s4 m4 t1 t2 mA ms F4 K4 R4 => ?_
  refine ruler_C B R' hfr K.frames rfl hM F4 K4 R4 fun s5 F5 K5 R5 => ?_
  refine ruler_D B R' rfl F5 K5 R5 fun s6 tA F6 K6 R6 T6 => ?_
  refine ruler_E B TA R' rfl hD F6 K6 R6 T6 fun s7 K7 => ?_
  exact h s7 K7.stays K7.up K7.os K7.bare
end
end Mine
end

section
open PySem PySem.W PyProof.Rows PySem.SeqAt
set_option maxRecDepth 100000
namespace Mine

abbrev comp2E (elt t1 i1 t2 i2 : Expr) (scope : Scope) (pos : Pos) : Expr := .ListComp elt [⟨t1, i1, [], 0⟩, ⟨t2, i2, [], 0⟩] scope pos

theorem turn_inner (elt t1 i1 t2 i2 : Expr) (scope : Scope) (pos : Pos) (it acc : Value) (env : Env) :
    compTurn (comp2E elt t1 i1 t2 i2 scope pos) 1 it acc env = (standAt i2.pos >>= fun _ => pyNext it >>= fun r => match r with
      | none => pure (.done .next)
      | some v => letOwnedTupleGo t2 it v >>= fun _ => assign t2 env v >>= fun _ =>
        (eval elt env >>= fun x => call (.builtin "list.append") [acc, x] >>= fun _ => pure ()) >>= fun _ =>
          again (.compLoop (comp2E elt t1 i1 t2 i2 scope pos) 1 it acc env)) := by rfl

theorem turn_outer (elt t1 i1 t2 i2 : Expr) (scope : Scope) (pos : Pos) (it acc : Value) (env : Env) :
    compTurn (comp2E elt t1 i1 t2 i2 scope pos) 0 it acc env = (standAt i1.pos >>= fun _ => pyNext it >>= fun r => match r with
      | none => pure (.done .next)
      | some v => letOwnedTupleGo t1 it v >>= fun _ => assign t1 env v >>= fun _ =>
        eval i2 env >>= fun x => standAt i2.pos >>= fun _ => foldedSetIterable i2 env x >>= fun x => holding [x] (pyIter x) >>= fun it' =>
          runOwn (.compStart (comp2E elt t1 i1 t2 i2 scope pos) 1 it' acc env) env >>= fun _ =>
          again (.compLoop (comp2E elt t1 i1 t2 i2 scope pos) 0 it acc env)) := by rfl

section
variable {w : World} {A : Around} {E : Value → Shared → Prop} {s : Shared} {env : Env}

theorem compLoop1 {elt t1 i1 i2 : Expr} {x : Str} {px : Pos} {scope : Scope} {pos : Pos} {acc : Value} {I : Addr} {fp wr : List Addr} {n : Nat} {Pv : Nat → Value → Prop} {St : Nat → Heap → Prop} {R : Result → Shared → Prop}
    (W : Walks P w A I fp wr n Pv St) (J : Nat → Shared → Prop)
    (hJ : ∀ i s h' tk, J i s → (∀ b o, b ∉ wr → s.heap.get? b = some o → h'.get? b = some o) → J i { s with heap := h', toks := tk })
    (step : ∀ i v s₁, i < n → Pv i v → J i s₁ → St (i + 1) s₁.heap →
      wpAny (model P w) A (assign (.Name x px) env v) (fun _ s₃ => wpAny (model P w) A (eval elt env) (fun y s₄ => wpAny (model P w) A (call (.builtin "list.append") [acc, y])
        (fun _ s₅ => J (i + 1) s₅ ∧ St (i + 1) s₅.heap) (fun _ _ => False) s₄) (fun _ _ => False) s₃) (fun _ _ => False) s₁)
    (fin : ∀ s', J n s' → R (.ok .next) s') (h0 : J 0 s) (st0 : St 0 s.heap) :
    codeAny (model P w) A (.compLoop (comp2E elt t1 i1 (.Name x px) i2 scope pos) 1 (.ref I) acc env) R s := by
  refine codeAny_loop rfl (fun k s' => ∃ i, k = n + 1 - i ∧ i ≤ n ∧ J i s' ∧ St i s'.heap) ?_ (n + 1) ⟨0, rfl, Nat.zero_le _, h0, st0⟩
  rintro k s' ⟨i, rfl, hi, hj, hst⟩
  show wpAny _ A ((compTurn (comp2E elt t1 i1 (.Name x px) i2 scope pos) 1 (.ref I) acc env).onRaise (fun x => do noteFrame x env; theTreesLotGoes x)) _ _ s'
  refine wpAny_noted ?_
  rw [turn_inner]
  refine wpAny_bind (wpAny_standAt (wpAny_bind ?_))
  by_cases hlt : i < n
  · refine W.item i _ _ _ hlt hst fun v h' tk hP hst' hk => ?_
    refine wpAny_bind (wpAny_pure ?_)
    refine wpAny_bind (calm (wpAny_mono (step i v { s' with heap := h', toks := tk } hlt hP (hJ _ _ _ _ hj hk) hst') (fun _ s₃ h₃ => ?_) fun _ _ x => x))
    refine wpAny_bind (wpAny_bind (calm (wpAny_mono h₃ (fun y s₄ h₄ => ?_) fun _ _ x => x)))
    refine wpAny_bind (calm (wpAny_mono h₄ (fun _ s₅ h₅ => ?_) fun _ _ x => x))
    exact wpAny_pure (wpAny_pure ⟨rfl, _, by omega, i + 1, rfl, hlt, h₅⟩)
  · have e : i = n := by omega
    subst e
    exact W.done _ _ _ hst fun h' tk hk => wpAny_pure (fin _ (hJ _ _ _ _ hj hk))

theorem compLoop0 {elt t2 i1 i2 : Expr} {x : Str} {px : Pos} {scope : Scope} {pos : Pos} {acc : Value} {I : Addr} {fp wr : List Addr} {n : Nat} {Pv : Nat → Value → Prop} {St : Nat → Heap → Prop} {R : Result → Shared → Prop}
    (W : Walks P w A I fp wr n Pv St) (J : Nat → Shared → Prop)
    (hJ : ∀ i s h' tk, J i s → (∀ b o, b ∉ wr → s.heap.get? b = some o → h'.get? b = some o) → J i { s with heap := h', toks := tk })
    (step : ∀ i v s₁, i < n → Pv i v → J i s₁ → St (i + 1) s₁.heap →
      wpAny (model P w) A (assign (.Name x px) env v) (fun _ s₃ => wpAny (model P w) A (eval i2 env) (fun y s₄ => wpAny (model P w) A (pyIter y) (fun it' s₅ =>
        ∃ (I' : Addr) (St' : Heap → Prop), it' = .ref I' ∧ (∀ (s : Shared) (Q : Value → Shared → Prop) (E : Value → Shared → Prop), St' s.heap → Q (.ref I') s → wpAny (model P w) A (pyIter (.ref I')) Q E s) ∧ St' s₅.heap ∧
          codeAny (model P w) A (.compLoop (comp2E elt (.Name x px) i1 t2 i2 scope pos) 1 (.ref I') acc env) (fun r s₆ => r = .ok .next ∧ J (i + 1) s₆ ∧ St (i + 1) s₆.heap) s₅) (fun _ _ => False) s₄) (fun _ _ => False) s₃) (fun _ _ => False) s₁)
    (fin : ∀ s', J n s' → R (.ok .next) s') (h0 : J 0 s) (st0 : St 0 s.heap) (hs : ∀ y, foldedSetIterable i2 env y = pure y := by intro _; rfl) :
    codeAny (model P w) A (.compLoop (comp2E elt (.Name x px) i1 t2 i2 scope pos) 0 (.ref I) acc env) R s := by
  refine codeAny_loop rfl (fun k s' => ∃ i, k = n + 1 - i ∧ i ≤ n ∧ J i s' ∧ St i s'.heap) ?_ (n + 1) ⟨0, rfl, Nat.zero_le _, h0, st0⟩
  rintro k s' ⟨i, rfl, hi, hj, hst⟩
  show wpAny _ A ((compTurn (comp2E elt (.Name x px) i1 t2 i2 scope pos) 0 (.ref I) acc env).onRaise (fun x => do noteFrame x env; theTreesLotGoes x)) _ _ s'
  refine wpAny_noted ?_
  rw [turn_outer]
  refine wpAny_bind (wpAny_standAt (wpAny_bind ?_))
  by_cases hlt : i < n
  · refine W.item i _ _ _ hlt hst fun v h' tk hP hst' hk => ?_
    refine wpAny_bind (wpAny_pure ?_)
    refine wpAny_bind (calm (wpAny_mono (step i v { s' with heap := h', toks := tk } hlt hP (hJ _ _ _ _ hj hk) hst') (fun _ s₃ h₃ => ?_) fun _ _ x => x))
    refine wpAny_bind (calm (wpAny_mono h₃ (fun y s₄ h₄ => ?_) fun _ _ x => x))
    refine wpAny_bind (wpAny_standAt (wpAny_bind (wpAny_of_eq (hs y) (wpAny_bind (wpAny_holding (calm (wpAny_mono h₄ (fun it' s₅ h₅ => ?_) fun _ _ x => x)))))))
    obtain ⟨I', St', rfl, self, st', hc⟩ := h₅
    refine wpAny_bind (wpAny_runOwn ?_)
    refine codeAny_mono (R := fun r s₆ => r = .ok .next ∧ J (i + 1) s₆ ∧ St (i + 1) s₆.heap) ?_ ?_
    · refine codeAny_of_tree ?_
      show wpAny _ _ ((compStart (comp2E elt (.Name x px) i1 t2 i2 scope pos) 1 (.ref I') acc env).onRaise (fun x => do noteFrame x env; standAt theWindowsPlace)) _ _ s₅
      refine wpAny_notedAt ?_
      unfold compStart
      show wpAny _ _ (ask >>= _) _ _ s₅
      refine wpAny_bind (wpAny_askSetting (wpAny_ite ?_))
      split
      · first
          | exact wpAny_bind (wpAny_pure (wpAny_pure (And.intro rfl hc)))
          | exact wpAny_pure (And.intro rfl hc)
      · refine wpAny_bind (wpAny_rule ?_)
        show wpAny _ _ (standAt i2.pos >>= _) _ _ s₅
        exact wpAny_bind (wpAny_standAt (wpAny_bind (self _ _ _ st' (wpAny_pure (And.intro rfl hc)))))
    · rintro r s₆ ⟨rfl, h₆⟩
      exact wpAny_pure ⟨rfl, _, by omega, i + 1, rfl, hlt, h₆⟩
  · have e : i = n := by omega
    subst e
    exact W.done _ _ _ hst fun h' tk hk => wpAny_pure (fin _ (hJ _ _ _ _ hj hk))
end
end Mine
end

section
open PySem PySem.W PyProof.Rows PySem.SeqAt
set_option maxRecDepth 100000
namespace Mine

section
variable {w : World} {A : Around} {E : Value → Shared → Prop} {s : Shared} {env : Env}

/-- y = [elt for x1 in i1 for x2 in i2]: up to the loops -/
theorem compAssign2 {elt i1 i2 : Expr} {x1 x2 y : Str} {p1 p2 py : Pos} {scope : Scope} {cl : List (Str × Addr)} {pos spos : Pos} {Q : Flow → Shared → Prop}
    (hsw : swapsWith (comp2E elt (.Name x1 p1) i1 (.Name x2 p2) i2 scope pos) (some (.Name y py)) spos.line env = pure true)
    (hclos : closureFor scope env = pure cl) (hcell : ∀ y ∈ scope.names, y.2 ≠ .cell) (hkind : scope.kind = .function)
    (hnames : ∀ y ∈ scope.names, y.2 = .local → scope.names.lookup y.1 = some .local)
    (h : wpAny (model P w) A (eval i1 env) (fun xv s₁ => wpAny (model P w) A (pyIter xv) (fun it s₂ => ∃ (I : Addr) (St : Heap → Prop), it = .ref I ∧ St s₂.heap ∧ (∀ h h', St h → (∀ b o, h.get? b = some o → h'.get? b = some o) → St h') ∧
      (∀ (s : Shared) (Q : Value → Shared → Prop) (E : Value → Shared → Prop), St s.heap → Q (.ref I) s → wpAny (model P w) A (pyIter (.ref I)) Q E s) ∧
      ∀ h₁ m₁ tk, h₁.Ns (s₂.heap.objs.size + 1) m₁ → h₁.PlainList s₂.heap.objs.size ([] : List Value).toArray → (∀ b o, s₂.heap.get? b = some o → h₁.get? b = some o) → h₁.objs.size = s₂.heap.objs.size + 2 →
        codeAny (model P w) A (.compLoop (comp2E elt (.Name x1 p1) i1 (.Name x2 p2) i2 scope pos) 0 (.ref I) (.ref s₂.heap.objs.size) (compEnvC scope cl (s₂.heap.objs.size + 1) env))
          (compPost (model P w) A E (some (assign (.Name y py) env)) (fun _ s' => Q .next s') (.ref s₂.heap.objs.size) (s₂.heap.objs.size + 1)) { s₂ with heap := h₁, toks := tk }) E s₁) E s)
    (hs : ∀ x, foldedSetIterable i1 env x = pure x := by intro _; rfl) :
    wpAny (model P w) A (exec (.Assign [.Name y py] (comp2E elt (.Name x1 p1) i1 (.Name x2 p2) i2 scope pos) spos) env) Q E s := by
  rw [exec_Assign_Name_used _ _ _ _ hsw]
  refine wpAny_bind (wpAny_standAt (wpAny_bind ?_))
  show wpAny _ A (do let _ ← comprehension (comp2E elt (.Name x1 p1) i1 (.Name x2 p2) i2 scope pos) scope env _ (newList []) false (eval i1 env) (some (assign (.Name y py) env))) _ _ s
  refine wpAny_bind (wpAny_mono (wpAny_comprehension_free (use := some (assign (.Name y py) env)) (Q := fun _ s' => Q .next s') rfl hs hclos hkind hnames
    (wpAny_mono h (fun xv s₁ h₁ => wpAny_mono h₁ (fun it s₂ h₂ => ?_) fun _ _ e => e) fun _ _ e => e)) (fun _ s' hq => wpAny_pure (wpAny_pure hq)) fun _ _ e => e)
  obtain ⟨I, St, rfl, hst, stab, self, go⟩ := h₂
  refine wpAny_newObj_type (wpAny_newFunctionEnv hcell (by intro y hy; simp at hy) (fun h₁ hns₁ hsb₁ => ?_) hkind)
  dsimp only at hns₁ hsb₁ ⊢
  generalize hD : s₂.heap.objs.size = D at *
  have hC : (s₂.heap.push { cls := .type "list", dict := none, data := .seq ([] : List Value).toArray }).objs.size = D + 1 := by rw [Heap.size_push, hD]
  rw [hC] at hns₁ hsb₁ ⊢
  have old : ∀ b o, s₂.heap.get? b = some o → h₁.get? b = some o := fun b o e => by
    have hb := ltA (Heap.lt_size e)
    rw [hD] at hb
    exact hsb₁.extBut b o (neA (by omega)) (Heap.get?_push_of_some _ (Heap.get?_push_of_some _ e))
  have hacc : h₁.PlainList D #[] := by
    have e : (s₂.heap.push { cls := .type "list", dict := none, data := .seq ([] : List Value).toArray }).get? D = some { cls := .type "list", dict := none, data := .seq ([] : List Value).toArray } := by
      rw [← hD]; exact Heap.get?_push_size _ rfl
    exact ⟨_, hsb₁.extBut D _ (neA (by omega)) (Heap.get?_push_of_some _ e)⟩
  have loop := go h₁ _ (s₂.toks + ([] : List (Str × Value)).length) hns₁ hacc old (by rw [hsb₁.1, Heap.size_push, hC])
  exact codeAny_compStart_list loop (self _ _ _ (stab _ _ hst old) loop)

end

theorem TablesAt.lists {h h' : Heap} {T tabs} (x : TablesAt h T tabs) (hk : ∀ b items, h.IsList b items → h'.IsList b items) : TablesAt h' T tabs :=
  let ⟨vs, a, b, c⟩ := x
  ⟨vs, hk _ _ a, b, fun i v e => let ⟨a, rs, e1, e2, ⟨us, r1, r2, r3⟩⟩ := c i v e; ⟨a, rs, e1, e2, us, hk _ _ r1, r2, fun i v e => let ⟨a, t, u, r, q1, q2, q3⟩ := r3 i v e; ⟨a, t, u, r, q1, q2, hk _ _ q3⟩⟩⟩

theorem flat_take {l : List (List (Int × Int))} {i : Nat} {rs : List (Int × Int)} (e : l[i]? = some rs) : (l.take (i + 1)).flatten.map (·.1) = (l.take i).flatten.map (·.1) ++ rs.map (·.1) := by
  rw [List.take_add_one, e]
  simp

section
variable {w : World} {A : Around} {E : Value → Shared → Prop} {s : Shared} {mg mb : Str → Option Value} {L a : Addr} {cd : Value} {m : Str → Option Value} {h₀ : Heap}

abbrev lEnv (L a : Addr) (cd : Value) : Env := envOf "law" (dSco (stAt 22)) L a cd
def lawBody : List Stmt := dBod (stAt 22)

theorem callFE0 {f : Str} {i : Nat} {fp pos : Pos} {Q : Value → Shared → Prop} {a : Addr} {env : Env} (B : Base w mg mb s.heap) (Fn : FnAt s.heap mg f i a)
    (h : wpAny (model P w) A (call (.ref a) []) Q E s) (hg : env.globals = mainGlobals := by rfl)
    (hk : env.scope.kind = .function := by rfl) (hx : env.kindOf f = some .globalImplicit := by rfl) (hd : (f == ("__debug__" : Str)) = false := by decide) :
    wpAny (model P w) A (eval (.Call (.Name f fp) [] [] pos) env) Q E s := by
  obtain ⟨o, pm, cd', doc, h1, h2, h3, h4⟩ := Fn
  refine wpAny_Call_NameR (ldgE B h1 ?_ hg hk hx hd)
  refine Calls.callWith_function (o := o) (fd := Calls.docDef f (dPar (stAt i)) (dBod (stAt i)) (dSco (stAt i)) pm cd' doc) (PySem.evalArgs_none ?_)
  exact ⟨⟨h2, h3⟩, h⟩

set_option maxHeartbeats 1000000 in
/-- firsts = [run[0] for runs in tables for run in runs] -/
theorem law_B {T : Addr} {Q : Flow → Shared → Prop} (Rm : Room A 0 10) (hh : s.heap.Ns L m) (m1 : m "tables" = some (.ref T)) (TA : TablesAt s.heap T allRuns)
    (next : ∀ s' fA fvs, s'.heap.Ns L (fun y => if y = "firsts" then some (.ref fA) else m y) → (∀ b o, b ≠ L → s.heap.get? b = some o → s'.heap.get? b = some o) → s'.os = s.os → (AllBare s.gens → AllBare s'.gens) →
      s'.heap.IsList fA fvs.toArray → IntsAre fvs firstsL → wpAny (model P w) A (execs (lawBody.drop 2) (lEnv L a cd)) Q E s') :
    wpAny (model P w) A (execs (lawBody.drop 1) (lEnv L a cd)) Q E s := by
  obtain ⟨tvs, q1, q2, q3⟩ := id TA
  have hLs : L < s.heap.objs.size := hh.lt
  have hTs : T < s.heap.objs.size := by obtain ⟨o, e, _⟩ := q1; exact Heap.lt_size e
  refine wpAny_execs_cons ?_
  refine compAssign2 (cl := []) (by rfl) (by rfl) (by decide) (by rfl) (by decide) ?_
  refine ldE hh m1 (wpAny_pyIter_list q1 ?_)
  dsimp only
  have kI : ∀ b o, s.heap.get? b = some o → (s.heap.push { cls := .type "list_iterator", data := .fields #[.ref T, .int 0 0] }).get? b = some o := fun b o e => Heap.get?_push_of_some _ e
  have hIi : (s.heap.push { cls := .type "list_iterator", data := .fields #[.ref T, .int 0 0] }).IsListIter s.heap.objs.size T 0 := ⟨_, Heap.get?_push_size _ rfl, rfl, rfl⟩
  have hsz : (s.heap.push { cls := .type "list_iterator", data := .fields #[.ref T, .int 0 0] }).objs.size = s.heap.objs.size + 1 := Heap.size_push ..
  generalize (s.heap.push { cls := .type "list_iterator", data := .fields #[.ref T, .int 0 0] }) = hI at *
  rw [hsz]
  generalize hIe : s.heap.objs.size = I at *
  have W := Walks.list (prog := P) (w := w) Rm.handled I T (Nat.ne_of_lt hTs) tvs.toArray
  refine ⟨I, fun h => h.IsListIter I T 0 ∧ h.IsList T tvs.toArray, rfl, ⟨hIi, q1.at fun o e => kI _ o e⟩, fun h h' st k => ⟨st.1.at fun o e => k _ o e, st.2.at fun o e => k _ o e⟩, fun s Q E st q => W.self 0 s Q E st q, fun h₁ m₁ tk hn₁ hp₁ k₁ hz₁ => ?_⟩
  have hLs' := ltA hLs
  have hTs' := ltA hTs
  refine compLoop0 W (fun i s' => ∃ ys m', s'.heap.Ns (I + 1 + 1) m' ∧ s'.heap.PlainList (I + 1) (List.toArray ys) ∧ IntsAre ys ((allRuns.take i).flatten.map (·.1)) ∧ ys.length ≤ 20 * i ∧ (∀ b o, s.heap.get? b = some o → s'.heap.get? b = some o) ∧ s'.os = s.os ∧ (AllBare s.gens → AllBare s'.gens))
    ?hJ ?step ?fin ?h0 ⟨hIi.at fun o e => k₁ _ o e, q1.at fun o e => k₁ _ o (kI _ o e)⟩
  case h0 => exact ⟨[], m₁, hn₁, hp₁, .nil, Nat.zero_le _, fun b o e => k₁ b o (kI b o e), rfl, id⟩
  case hJ =>
    rintro i s' h' tk ⟨ys, m', j1, j2, j3, j4, j5, j6, j7⟩ hk
    have ne : ∀ {b : Addr}, b ≠ I → b ∉ [I] := fun h => by simpa using h
    exact ⟨ys, m', j1.at' fun o e => hk _ o (ne (neA (by omega))) e, j2.at fun o e => hk _ o (ne (neA (by omega))) e, j3, j4, fun b o e => hk b o (ne (neA (by have := ltA (Heap.lt_size e); omega))) (j5 b o e), j6, j7⟩
  case fin =>
    rintro s' ⟨ys, m', j1, j2, j3, j4, j5, j6, j7⟩
    show wpAny _ A (assign (.Name _ _) _ (.ref (I + 1))) _ _ _
    refine wpAny_assign_Name (wpAny_storeName_local (env := lEnv L a cd) (by rfl) (hh.at' fun o e => j5 _ o e) (fun h₂ hn₂ hs₂ => ?_) (by rfl))
    refine ⟨m', j1.at' fun o e => hs₂.extBut _ o (show I + 1 + 1 ≠ L from neA (by omega)) e, fun h₃ hs₃ => ?_⟩
    have k3 : ∀ b o, b ≠ L → b ≠ I + 1 + 1 → s'.heap.get? b = some o → h₃.get? b = some o := fun b o n1 n2 e => hs₃.extBut b o n2 (hs₂.extBut b o n1 e)
    have e7 : tvs.toArray.size = 7 := by rw [List.size_toArray, q2, allRuns_len]
    rw [e7, show allRuns.take 7 = allRuns from by rw [List.take_of_length_le]; rw [allRuns_len]; exact Nat.le_refl _] at j3
    exact next _ (I + 1) ys (hn₂.sameBut hs₃ (show L ≠ I + 1 + 1 from neA (by omega))) (fun b o nb e => k3 b o nb (neA (by have := ltA (Heap.lt_size e); omega)) (j5 b o e)) j6 j7 (j2.isList.at fun o e => k3 _ o (neA (by omega)) (neA (by omega)) e) j3
  case step =>
    rintro i v s₁ hi hv ⟨ys, m', j1, j2, j3, j4, j5, j6, j7⟩ ⟨st1, st2⟩
    obtain ⟨rl, rs, rfl, b2, us, r1, r2, r3⟩ := q3 i v (by simpa using hv)
    have hok := allRuns_ok rs (List.mem_of_getElem? b2)
    have hi7 : i < 7 := by rw [List.size_toArray, q2, allRuns_len] at hi; exact hi
    have hrl : rl < I := by obtain ⟨o, e, _⟩ := r1; exact hIe ▸ Heap.lt_size e
    have hrl' := ltA hrl
    have hC1 : I + 1 + 1 < s₁.heap.objs.size := j1.lt
    have hC1' := ltA hC1
    refine wpAny_assign_Name (wpAny_storeName_local (env := compEnvC _ [] (I + 1 + 1) (lEnv L a cd)) (by rfl) j1 (fun h₂ hn₂ hs₂ => ?_) (by rfl))
    replace hs₂ : Heap.SameBut (I + 1 + 1) s₁.heap h₂ := hs₂
    replace hn₂ : h₂.Ns (I + 1 + 1) _ := hn₂
    have k2 : ∀ b o, b ≠ I + 1 + 1 → s₁.heap.get? b = some o → h₂.get? b = some o := fun b o nb e => hs₂.extBut b o nb e
    have hsz2 : h₂.objs.size = s₁.heap.objs.size := hs₂.1
    have r1₂ : h₂.IsList rl us.toArray := r1.at fun o e => k2 _ o (neA (by omega)) (j5 _ o e)
    refine ldE hn₂ (by rfl) (wpAny_pyIter_list r1₂ ?_)
    dsimp only
    have kJ : ∀ b o, h₂.get? b = some o → (h₂.push { cls := .type "list_iterator", data := .fields #[.ref rl, .int 0 0] }).get? b = some o := fun b o e => Heap.get?_push_of_some _ e
    have hJi : (h₂.push { cls := .type "list_iterator", data := .fields #[.ref rl, .int 0 0] }).IsListIter h₂.objs.size rl 0 := ⟨_, Heap.get?_push_size _ rfl, rfl, rfl⟩
    generalize (h₂.push { cls := .type "list_iterator", data := .fields #[.ref rl, .int 0 0] }) = h3 at *
    rw [hsz2] at hJi ⊢
    generalize hJe : s₁.heap.objs.size = J at *
    have W2 := Walks.list (prog := P) (w := w) Rm.handled J rl (neA (by omega)) us.toArray
    refine ⟨J, fun h => h.IsListIter J rl 0 ∧ h.IsList rl us.toArray, rfl, fun s Q E st q => W2.self 0 s Q E st q, ⟨hJi, r1₂.at fun o e => kJ _ o e⟩, ?_⟩
    refine compLoop1 W2 (fun k s' => ∃ zs m', s'.heap.Ns (I + 1 + 1) m' ∧ s'.heap.PlainList (I + 1) (List.toArray zs) ∧ IntsAre zs ((allRuns.take i).flatten.map (·.1) ++ (rs.take k).map (·.1)) ∧ zs.length ≤ 20 * i + k ∧ (∀ b o, s.heap.get? b = some o → s'.heap.get? b = some o) ∧ s'.os = s.os ∧ (AllBare s.gens → AllBare s'.gens) ∧ s'.heap.IsListIter I T (i + 1))
      ?hJ2 ?step2 ?fin2 ?h02 ⟨hJi, r1₂.at fun o e => kJ _ o e⟩
    case h02 =>
      have k3 : ∀ b o, b ≠ I + 1 + 1 → s₁.heap.get? b = some o → h3.get? b = some o := fun b o nb e => kJ b o (k2 b o nb e)
      exact ⟨ys, _, hn₂.keeps kJ, j2.at fun o e => k3 _ o (neA (by omega)) e, by simpa using j3, by omega, fun b o e => k3 b o (neA (by have := ltA (Heap.lt_size e); omega)) (j5 b o e), j6, j7, st1.at fun o e => k3 _ o (neA (by omega)) e⟩
    case hJ2 =>
      rintro k s' h' tk ⟨zs, m', l1, l2, l3, l4, l5, l6, l7, l8⟩ hk
      have ne : ∀ {b : Addr}, b ≠ J → b ∉ [J] := fun h => by simpa using h
      exact ⟨zs, m', l1.at' fun o e => hk _ o (ne (neA (by omega))) e, l2.at fun o e => hk _ o (ne (neA (by omega))) e, l3, l4, fun b o e => hk b o (ne (neA (by have := ltA (Heap.lt_size e); omega))) (l5 b o e), l6, l7, l8.at fun o e => hk _ o (ne (neA (by omega))) e⟩
    case fin2 =>
      rintro s' ⟨zs, m', l1, l2, l3, l4, l5, l6, l7, l8⟩
      have e7 : us.toArray.size = rs.length := by rw [List.size_toArray, r2]
      rw [e7, List.take_length, ← flat_take b2] at l3
      rw [e7] at l4
      exact ⟨rfl, ⟨zs, m', l1, l2, l3, by omega, l5, l6, l7⟩, l8, q1.at fun o e => l5 _ o e⟩
    case step2 =>
      rintro k v s₂ hk hv ⟨zs, m', l1, l2, l3, l4, l5, l6, l7, l8⟩ ⟨st3, st4⟩
      obtain ⟨ra, t, u, r, rfl, c2, c3⟩ := r3 k v (by simpa using hv)
      have hra : ra < I := by obtain ⟨o, e, _⟩ := c3; exact hIe ▸ Heap.lt_size e
      have hra' := ltA hra
      have hk20 : k < 20 := by rw [List.size_toArray, r2] at hk; omega
      refine wpAny_assign_Name (wpAny_storeName_local (env := compEnvC _ [] (I + 1 + 1) (lEnv L a cd)) (by rfl) l1 (fun h₄ hn₄ hs₄ => ?_) (by rfl))
      replace hs₄ : Heap.SameBut (I + 1 + 1) s₂.heap h₄ := hs₄
      replace hn₄ : h₄.Ns (I + 1 + 1) _ := hn₄
      have k4 : ∀ b o, b ≠ I + 1 + 1 → s₂.heap.get? b = some o → h₄.get? b = some o := fun b o nb e => hs₄.extBut b o nb e
      have c3' : h₄.IsList ra #[.int r.1 t, .int r.2 u] := c3.at fun o e => k4 _ o (neA (by omega)) (l5 _ o e)
      refine itemL (ldE hn₄ (by rfl) (wpAny_Constant_int ⟨ra, _, 0, _, .int r.1 t, rfl, rfl, c3', by decide, by decide, rfl, ?_⟩))
      refine wpAny_list_append_plain (items := zs.toArray) (l2.at fun o e => k4 _ o (neA (by omega)) e) (fun h₅ hp₅ hs₅ => ?_) (by rw [List.size_toArray]; show _ ≤ 2 ^ 24; omega)
      have k5 : ∀ b o, b ≠ I + 1 → b ≠ I + 1 + 1 → s₂.heap.get? b = some o → h₅.get? b = some o := fun b o n1 n2 e => hs₅.extBut b o n1 (k4 b o n2 e)
      have e1 : zs.toArray.push (Value.int r.1 t) = (zs ++ [Value.int r.1 t]).toArray := by simp
      rw [e1] at hp₅
      refine ⟨⟨zs ++ [.int r.1 t], _, hn₄.at' fun o e => hs₅.extBut _ o (neA (by omega)) e, hp₅, ?_, by simp; omega, fun b o e => k5 b o (neA (by have := ltA (Heap.lt_size e); omega)) (neA (by have := ltA (Heap.lt_size e); omega)) (l5 b o e), l6, l7, l8.at fun o e => k5 _ o (neA (by omega)) (neA (by omega)) e⟩,
        st3.at fun o e => k5 _ o (neA (by omega)) (neA (by omega)) e, st4.at fun o e => k5 _ o (neA (by omega)) (neA (by omega)) e⟩
      rw [List.take_add_one, c2]
      simp only [Option.toList, List.map_append, List.map_cons, List.map_nil, ← List.append_assoc]
      exact l3.append (.cons _ _ .nil)
end
end Mine
end

section
open PySem PySem.W PyProof.Rows PySem.SeqAt
set_option maxRecDepth 100000
namespace Mine

def lawNs (xs : List Int) : List Int := ((xs.take 2).map fun x : Int => x.fmod 1000000000000) ++ [4912, 15704248, 124537]

theorem isList_minus {h : Heap} {L b : Addr} {m : Str → Option Value} {items : Array Value} (hn : h.Ns L m) (x : h.IsList b items) : (minus h [L]).IsList b items := by
  obtain ⟨o, e, hc, n, hd⟩ := x
  refine ⟨o, ?_, hc, n, hd⟩
  rw [minus_out]
  · exact e
  · simp only [List.mem_singleton]
    rintro rfl
    obtain ⟨o', es, ep, e', hd', _⟩ := hn
    rw [e] at e'
    cases e'
    rw [hd] at hd'
    cases hd'

def PlainLaw (n : Int) : Prop := marksOf (rSizes n) = rMarks n ∧ ∀ j rs, allRuns[j]? = some rs → divOf (rFirst n) (rStart n) (rStep n) (rLast n) rs = heldTo (rMarks n) j (rMarks n).length

section
variable {w : World} {A : Around} {E : Value → Shared → Prop} {s : Shared} {mg mb : Str → Option Value} {L a : Addr} {cd : Value} {m : Str → Option Value} {h₀ : Heap}

set_option maxHeartbeats 1000000 in
/-- the list of the rulers' numbers -/
theorem law_C1 {S : Addr} {vs : List Value} {xs : List Int} {p : Pos} {Q : Value → Shared → Prop} (Rm : Room A 0 10) (hh : s.heap.Ns L m) (m1 : m "script" = some (.ref S)) (hl : s.heap.IsList S vs.toArray) (hi : IntsAre vs xs) (hz : xs.length ≤ 63)
    (next : ∀ s' l ys, Kp s s' → s'.heap.IsList l ys.toArray → IntsAre ys (lawNs xs) → Q (.ref l) s') (e : Expr)
    (he : e = match lawBody.drop 2 with | .For _ e _ _ _ :: _ => e | _ => .Constant (.bool true) 0 p) :
    wpAny (model P w) A (eval e (lEnv L a cd)) Q E s := by
  subst he
  have hvl : vs.length ≤ 63 := by rw [hi.length]; exact hz
  have hLs : L < s.heap.objs.size := hh.lt
  refine wpAny_BinOp (?_ : wpAny (model P w) A (eval (.ListComp _ [⟨.Name "x" _, _, [], 0⟩] _ _) (lEnv L a cd)) _ E s)
  refine listcomp (cl := []) (by rfl) (by decide) (by rfl) (by decide) (by rfl) ?_
  refine wpAny_Subscript_list_slice (ldE hh m1 (wpAny_evalPart_none (wpAny_evalPart_some (wpAny_Constant_int ⟨S, vs.toArray, none, some 2, rfl, hl, by rw [List.size_toArray]; show _ ≤ 2 ^ 24; omega, .none, .int _ _, ?_⟩))))
  have hsl := slice_ints_uptoW hi (y := 2) (by decide)
  rw [show (2 : Int).toNat = 2 from rfl] at hsl
  dsimp only
  generalize hV : (slicePick vs.toArray none (some 2) none) = items at *
  obtain ⟨zs0, rfl⟩ : ∃ zs : List Value, items = zs.toArray := ⟨items.toList, by simp⟩
  replace hsl : IntsAre zs0 (xs.take 2) := hsl
  have k1 : ∀ b o, s.heap.get? b = some o → ((s.heap.push { cls := .type "slice", data := .fields #[.none, .int 2 s.toks, .none] }).push { cls := .type "list", data := .seq zs0.toArray }).get? b = some o := fun b o e => Heap.get?_push_of_some _ (Heap.get?_push_of_some _ e)
  have l1 : ((s.heap.push { cls := .type "slice", data := .fields #[.none, .int 2 s.toks, .none] }).push { cls := .type "list", data := .seq zs0.toArray }).IsList (s.heap.objs.size + 1) zs0.toArray := by
    have := isList_push (h := s.heap.push { cls := .type "slice", data := .fields #[.none, .int 2 s.toks, .none] }) (vs := zs0)
    rwa [Heap.size_push] at this
  generalize ((s.heap.push { cls := .type "slice", data := .fields #[.none, .int 2 s.toks, .none] }).push { cls := .type "list", data := .seq zs0.toArray }) = h1 at *
  generalize s.heap.objs.size + 1 = SL at *
  refine wpAny_pyIter_list l1 ?_
  dsimp only
  have kI : ∀ b o, h1.get? b = some o → (h1.push { cls := .type "list_iterator", data := .fields #[.ref SL, .int 0 0] }).get? b = some o := fun b o e => Heap.get?_push_of_some _ e
  have hIi : (h1.push { cls := .type "list_iterator", data := .fields #[.ref SL, .int 0 0] }).IsListIter h1.objs.size SL 0 := ⟨_, Heap.get?_push_size _ rfl, rfl, rfl⟩
  have hsz : (h1.push { cls := .type "list_iterator", data := .fields #[.ref SL, .int 0 0] }).objs.size = h1.objs.size + 1 := Heap.size_push ..
  have hSL : SL < h1.objs.size := by obtain ⟨o, e, _⟩ := l1; exact Heap.lt_size e
  generalize (h1.push { cls := .type "list_iterator", data := .fields #[.ref SL, .int 0 0] }) = hI at *
  generalize hIe : h1.objs.size = I at *
  have hil : zs0.toArray.size = (xs.take 2).length := by rw [← hsl.length, List.size_toArray]
  have hil2 : zs0.toArray.size ≤ 2 := by rw [hil, List.length_take]; omega
  refine ⟨I, [I, SL], [I], zs0.toArray.size, _, _, rfl, Walks.list Rm.handled I SL (Nat.ne_of_lt hSL) zs0.toArray, by show _ ≤ 2 ^ 24; omega, ⟨hIi, l1.at fun o e => kI _ o e⟩, ?_,
    fun i ys h => IntsAre ys (((xs.take 2).take i).map fun x : Int => x.fmod 1000000000000), IntsAre.nil, fun _ _ _ _ x _ => x, ?_, ?_⟩
  · intro b hb
    simp only [List.mem_cons, List.not_mem_nil, or_false] at hb
    rw [hsz]
    rcases hb with rfl | rfl
    · exact Nat.lt_succ_self _
    · exact Nat.lt_succ_of_lt hSL
  · rintro i v ys s₃ m₃ hv hlen hn₃ hm₃ hz hk
    refine wpAny_pure ⟨Kp.refl _, ?_⟩
    rw [if_pos rfl]
    simp only [List.getElem?_toArray] at hv
    have hi' : i < zs0.length := by
      rcases Nat.lt_or_ge i zs0.length with h | h
      · exact h
      · rw [List.getElem?_eq_none h] at hv; cases hv
    obtain ⟨tc, hc, _⟩ := ints_at hsl (i := i) hi'
    have hl' : i < (xs.take 2).length := by rw [← hsl.length]; exact hi'
    have hcm : (xs.take 2)[i]? = some ((xs.take 2).getD i 0) := by simp only [List.getD, List.getElem?_eq_getElem hl', Option.getD_some]
    have ev : v = .int ((xs.take 2).getD i 0) tc := by
      rw [hv] at hc
      exact Option.some.inj hc
    subst ev
    generalize (xs.take 2).getD i 0 = x at *
    refine wpAny_BinOp (ldE hn₃ hm₃ (wpAny_BinOp (wpAny_Constant_int (wpAny_Constant_int ?_))))
    refine AutoIntOps.pow_4 (by decide) (by decide) (by decide) (by decide) (by decide +kernel) ?_
    show wpAny _ _ (binaryOp .Mod (.int x tc) (.int 1000000000000 _)) _ _ _
    refine mod_int' (by decide) ⟨⟨fun _ _ e => e, rfl, id⟩, ?_⟩
    show IntsAre _ (((xs.take 2).take (i + 1)).map fun x : Int => x.fmod 1000000000000)
    rw [List.take_add_one, hcm, List.map_append]
    exact hz.append (.cons _ _ .nil)
  · rintro s₅ ys hpl hz Ku5
    replace hz : IntsAre ys (((xs.take 2).take zs0.toArray.size).map fun x : Int => x.fmod 1000000000000) := hz
    rw [hil, List.take_length] at hz
    have k5 : ∀ b o, s.heap.get? b = some o → s₅.heap.get? b = some o := fun b o e => Ku5.keep b o (by
      simp only [List.mem_singleton]
      exact Nat.ne_of_lt (hIe ▸ Heap.lt_size (k1 b o e))) (kI b o (k1 b o e))
    refine wpAny_List (wpAny_items_cons (wpAny_Constant_int (wpAny_items_cons (wpAny_Constant_int (wpAny_items_cons (wpAny_Constant_int (wpAny_items_nil ⟨by show 3 ≤ 2 ^ 24; decide, ?_⟩)))))))
    refine addL (hpl.isList.at fun o e => Heap.get?_push_of_some _ e) isList_push ?_ ?_
    · rw [hz.length, List.length_map, ← hil]; simp only [List.length_cons, List.length_nil]; omega
    refine next _ _ _ ⟨fun b o e => Heap.get?_push_of_some _ (Heap.get?_push_of_some _ (k5 b o e)), Ku5.os, Ku5.bare⟩ isList_push ?_
    exact hz.append (.cons _ _ (.cons _ _ (.cons _ _ .nil)))

theorem wpAny_eqE {e e' : Expr} {env : Env} {Q : Value → Shared → Prop} (h : e = e') (x : wpAny (model P w) A (eval e' env) Q E s) : wpAny (model P w) A (eval e env) Q E s := h ▸ x
end
end Mine
end

section
open PySem PySem.W PyProof.Rows PySem.SeqAt
set_option maxRecDepth 100000
namespace Mine

theorem ns_minus {h : Heap} {L b : Addr} {m : Str → Option Value} (hb : b ≠ L) (x : h.Ns b m) : (minus h [L]).Ns b m := by
  obtain ⟨o, es, ep, e, r⟩ := x
  exact ⟨o, es, ep, by rw [minus_out (by simpa using hb)]; exact e, r⟩

section
variable {w : World} {A : Around} {E : Value → Shared → Prop} {s : Shared} {mg mb : Str → Option Value} {L a : Addr} {cd : Value} {m : Str → Option Value} {h₀ : Heap}

set_option maxHeartbeats 1000000 in
/-- the loop over the rulers -/
theorem law_C {n0 : Nat} {h0 : Heap} {S T fA : Addr} {vs fvs : List Value} {xs : List Int} {Q : Flow → Shared → Prop} (Rm : Room A 5 100) (hfr : A.frames = some [lEnv L a cd]) (B : Base w mg mb h0) (hL0 : h0.get? L = none) (k0 : h0.StaysIn s.heap)
    (hh : s.heap.Ns L m) (m1 : m "script" = some (.ref S)) (hl : s.heap.IsList S vs.toArray) (hi : IntsAre vs xs) (hz : xs.length ≤ 63)
    (m2 : m "tables" = some (.ref T)) (TA : TablesAt s.heap T allRuns) (m3 : m "firsts" = some (.ref fA)) (hf : s.heap.IsList fA fvs.toArray) (hfi : IntsAre fvs firstsL) (plain : ∀ n, PlainLaw n)
    (next : ∀ s', (∀ b o, b ≠ L → s.heap.get? b = some o → s'.heap.get? b = some o) → s'.os = s.os → (AllBare s.gens → AllBare s'.gens) → Q (.ret (.bool true)) s') :
    wpAny (model P w) A (execs (lawBody.drop 2) (lEnv L a cd)) Q E s := by
  refine wpAny_execs_cons (wpAny_For ?_)
  refine law_C1 (p := default) (Rm.less (by omega) (by omega)) hh m1 hl hi hz (fun s1 ax ys K1 l1 i1 => ?_) _ rfl
  have hn1 := hh.keeps K1.keep
  have hz1 : ys.length ≤ 5 := by rw [i1.length]; unfold lawNs; simp only [List.length_append, List.length_map, List.length_take, List.length_cons, List.length_nil]; omega
  refine wpAny_pyIter_list l1 ?_
  have kI : ∀ b o, s1.heap.get? b = some o → (s1.heap.push { cls := .type "list_iterator", data := .fields #[.ref ax, .int 0 0] }).get? b = some o := fun b o e => Heap.get?_push_of_some _ e
  have hIi : (s1.heap.push { cls := .type "list_iterator", data := .fields #[.ref ax, .int 0 0] }).IsListIter s1.heap.objs.size ax 0 := ⟨_, Heap.get?_push_size _ rfl, rfl, rfl⟩
  have hLs : L < s1.heap.objs.size := hn1.lt
  have hax : ax < s1.heap.objs.size := by obtain ⟨o, e, _⟩ := l1; exact Heap.lt_size e
  generalize (s1.heap.push { cls := .type "list_iterator", data := .fields #[.ref ax, .int 0 0] }) = hI at *
  generalize hIe : s1.heap.objs.size = I at *
  have hLs' := ltA hLs
  have neL : ∀ {h : Heap} {mm : Str → Option Value} {b : Addr} {items : Array Value}, h.Ns L mm → h.IsList b items → b ≠ L := fun hn x q => by
    subst q
    obtain ⟨o, e, hc, n, hd⟩ := x
    obtain ⟨o', es, ep, e', hd', _⟩ := hn
    rw [e] at e'
    cases e'
    rw [hd] at hd'
    cases hd'
  refine forLoop_walks (s := { s1 with heap := hI }) (Walks.list (prog := P) (w := w) Rm.handled I ax (Nat.ne_of_lt hax) ys.toArray)
    (fun i s' => (∃ m', s'.heap.Ns L m' ∧ m' "tables" = some (.ref T) ∧ m' "firsts" = some (.ref fA)) ∧ (∀ b o, b ≠ L → s1.heap.get? b = some o → s'.heap.get? b = some o) ∧ s'.os = s.os ∧ (AllBare s.gens → AllBare s'.gens))
    ?hJ ?step ?fin ⟨⟨m, hn1.keeps kI, m2, m3⟩, fun b o _ e => kI b o e, K1.os, K1.bare⟩ ⟨hIi, l1.at fun o e => kI _ o e⟩
  case hJ =>
    rintro i s' h' tk ⟨⟨m', j1, j2, j3⟩, j4, j5, j6⟩ hk
    have ne : ∀ {b : Addr}, b ≠ I → b ∉ [I] := fun h => by simpa using h
    exact ⟨⟨m', j1.at' fun o e => hk _ o (ne (neA (by omega))) e, j2, j3⟩, fun b o nb e => hk b o (ne (neA (by have := ltA (Heap.lt_size e); omega))) (j4 b o nb e), j5, j6⟩
  case fin =>
    rintro s' ⟨⟨m', j1, j2, j3⟩, j4, j5, j6⟩
    exact wpAny_execs_cons (wpAny_Return_some (Constant_bool (next s' (fun b o nb e => j4 b o nb (K1.keep b o e)) j5 j6)))
  case step =>
    rintro i v s₁ hi' hv ⟨⟨m', j1, j2, j3⟩, j4, j5, j6⟩ ⟨st1, st2⟩
    simp only [List.getElem?_toArray] at hv
    have hi2 : i < ys.length := by
      rcases Nat.lt_or_ge i ys.length with h | h
      · exact h
      · rw [List.getElem?_eq_none h] at hv; cases hv
    obtain ⟨tc, hc, _⟩ := ints_at i1 (i := i) hi2
    rw [hv] at hc
    obtain rfl := Option.some.inj hc
    generalize (lawNs xs).getD i 0 = n at *
    refine wpAny_assign_Name (wpAny_storeName_local (env := lEnv L a cd) (by rfl) j1 (fun h₂ hn₂ hs₂ => ?_) (by rfl))
    replace hs₂ : Heap.SameBut L s₁.heap h₂ := hs₂
    replace hn₂ : h₂.Ns L _ := hn₂
    have k2 : ∀ b o, b ≠ L → s₁.heap.get? b = some o → h₂.get? b = some o := fun b o nb e => hs₂.extBut b o nb e
    have k12 : ∀ b o, b ≠ L → s1.heap.get? b = some o → h₂.get? b = some o := fun b o nb e => k2 b o nb (j4 b o nb e)
    have k02 : ∀ b o, b ≠ L → s.heap.get? b = some o → h₂.get? b = some o := fun b o nb e => k12 b o nb (K1.keep b o e)
    have lists : ∀ b items, s.heap.IsList b items → (minus h₂ [L]).IsList b items := fun b items x => isList_minus hn₂ (x.at fun o e => k02 _ o (neL hh x) e)
    have hb0 : h0.StaysIn (minus h₂ [L]) := stays_minus (fun b o e => k02 b o (fun q => by subst q; rw [hL0] at e; cases e) (k0 b o e)) fun b hb => by simp only [List.mem_singleton] at hb; subst hb; exact hL0
    have Bm : Base w mg mb (minus h₂ [L]) := B.keeps hb0
    have Bh : Base w mg mb h₂ := Bm.keeps (minus_stays _ _)
    obtain ⟨fr, Fr0⟩ := Bm.f21
    have bl : Below A (minus h₂ [L]) [lEnv L a cd] h₂ := ⟨hfr, minus_stays _ _, Heap.FunFrames.cons (L := L) (by show (dSco (stAt 22)).kind ≠ .module; decide) rfl hn₂ (minus_in (List.mem_cons_self ..)) trivial⟩
    refine wpAny_execs_cons (wpAny_If (isTrue_not (isTrue_plain ?_)))
    have e1 : (fun y : Str => if y = "n" then some (Value.int n tc) else m' y) "tables" = some (.ref T) := j2
    have e2 : (fun y : Str => if y = "n" then some (Value.int n tc) else m' y) "firsts" = some (.ref fA) := j3
    refine callFE (s := { s₁ with heap := h₂, toks := s₁.toks + 1 }) Bh (Fr0.keeps (minus_stays _ _)) (wpAny_items_cons (ldE hn₂ (by rfl) (wpAny_items_cons (ldE hn₂ e1 (wpAny_items_cons (ldE hn₂ e2 (wpAny_items_nil ⟨fun _ _ e => e, ?_⟩)))))))
    refine ruler_spec (s := { s₁ with heap := h₂, toks := s₁.toks + 1 }) bl Bm (TA.lists lists) (lists _ _ hf) hfi (Rm.less (by omega) (by omega)) Fr0 (plain n).1 (plain n).2 fun s3 st3 up3 os3 br3 => ?_
    refine wpAny_truthy_bool ?_
    rw [show (!true) = false from rfl, if_neg Bool.false_ne_true]
    have k3 : ∀ b o, b ≠ L → h₂.get? b = some o → s3.heap.get? b = some o := fun b o nb e => st3 b o (by rw [minus_out (by simpa using nb)]; exact e)
    have hIL : I ≠ L := neA (by omega)
    have haxL : ax ≠ L := neL hn1 l1
    refine wpAny_execs_nil (wpAny_execs_nil ⟨⟨⟨_, up3.ns hn₂, e1, e2⟩, fun b o nb e => k3 b o nb (k12 b o nb e), os3.trans j5, fun hb => br3 (j6 hb)⟩, ?_, ?_⟩)
    · exact (st1.at fun o e => k2 _ o hIL e).at fun o e => k3 _ o hIL e
    · exact (st2.at fun o e => k2 _ o haxL e).at fun o e => k3 _ o haxL e

set_option maxHeartbeats 1000000 in
theorem law_spec {S : Addr} {vs : List Value} {xs : List Int} {Q : Value → Shared → Prop} (B : Base w mg mb s.heap) (Fn : FnAt s.heap mg "law" 22 a) (Rm : Room A 6 110) (hfr : A.frames = some [])
    (hl : s.heap.IsList S vs.toArray) (hi : IntsAre vs xs) (hz : xs.length ≤ 63) (plain : ∀ n, PlainLaw n)
    (h : ∀ s', (∀ b o, s.heap.get? b = some o → s'.heap.get? b = some o) → s'.os = s.os → (AllBare s.gens → AllBare s'.gens) → Q (.bool true) s') :
    wpAny (model P w) A (call (.ref a) [.ref S]) Q E s := by
  refine enter (binds := [(("script" : Str), Value.ref S)]) B Rm Fn (fun _ _ _ => by rfl) (by intro x hx; simp at hx; subst hx; rfl) (fun cd h₁ F => ?_)
  have R' : Room (A.deeper (lEnv s.heap.objs.size a cd)) 5 100 := (Rm.less (d' := 6) (u' := 103) (by omega) (by omega)).deeper _
  have hfr' : (A.deeper (lEnv s.heap.objs.size a cd)).frames = some [lEnv s.heap.objs.size a cd] := Around.frames_deeper hfr
  have B1 : Base w mg mb h₁ := B.keeps F.keep
  obtain ⟨fr, Fr0⟩ := B1.f17
  refine wpAny_execs_cons (wpAny_Assign_Name (callFE0 B1 Fr0 ?_))
  refine runs_spec B1 (R'.less (by omega) (by omega)) Fr0 fun s2 T K2 TA2 => ?_
  refine wpAny_storeName_local (env := lEnv s.heap.objs.size a cd) (by rfl) (F.ns.keeps K2.keep) (fun h₃ hn₃ hs₃ => ?_) (by rfl)
  replace hs₃ : Heap.SameBut s.heap.objs.size s2.heap h₃ := hs₃
  replace hn₃ : h₃.Ns s.heap.objs.size _ := hn₃
  have hns2 := F.ns.keeps K2.keep
  have neL : ∀ {h : Heap} {mm : Str → Option Value} {L b : Addr} {items : Array Value}, h.Ns L mm → h.IsList b items → b ≠ L := fun hn x q => by
    subst q
    obtain ⟨o, e, hc, n, hd⟩ := x
    obtain ⟨o', es, ep, e', hd', _⟩ := hn
    rw [e] at e'
    cases e'
    rw [hd] at hd'
    cases hd'
  have TA3 : TablesAt h₃ T allRuns := TA2.lists fun b items x => x.at fun o e => hs₃.extBut _ o (neL hns2 x) e
  have hSL : ∀ b o, s.heap.get? b = some o → b ≠ s.heap.objs.size := fun b o e => Nat.ne_of_lt (Heap.lt_size e)
  have k3 : ∀ b o, s.heap.get? b = some o → h₃.get? b = some o := fun b o e => hs₃.extBut b o (hSL b o e) (K2.keep b o (F.keep b o e))
  refine law_B (s := { s2 with heap := h₃, toks := s2.toks + 1 }) (R'.less (by omega) (by omega)) hn₃ (by rfl) TA3 fun s4 fA fvs hn4 k4 os4 br4 f4 fi4 => ?_
  have k4' : ∀ b o, s.heap.get? b = some o → s4.heap.get? b = some o := fun b o e => k4 b o (hSL b o e) (k3 b o e)
  refine law_C (n0 := 0) (h0 := s.heap) R' hfr' B (noneFrom (Nat.le_refl _)) k4' hn4 (by rfl) (hl.at fun o e => k4' _ o e) hi hz (by rfl) (TA3.lists fun b items x => x.at fun o e => k4 _ o (neL hn₃ x) e) (by rfl) f4 fi4 plain fun s5 k5 os5 br5 => ?_
  exact h s5 (fun b o e => k5 b o (hSL b o e) (k4' b o e)) (os5.trans (os4.trans K2.os)) fun hb => br5 (br4 (K2.bare hb))
end
end Mine
end

section
open PySem PySem.W PyProof.Rows PySem.SeqAt
set_option maxRecDepth 100000
namespace Mine

theorem eq_of_sorted : ∀ (l₁ l₂ : List Int), l₁.Pairwise (· < ·) → l₂.Pairwise (· < ·) → (∀ x, x ∈ l₁ ↔ x ∈ l₂) → l₁ = l₂
  | [], [], _, _, _ => rfl
  | [], b :: l, _, _, h => by have := (h b).mpr (List.mem_cons_self ..); cases this
  | a :: l, [], _, _, h => by have := (h a).mp (List.mem_cons_self ..); cases this
  | a :: l, b :: l', h1, h2, h => by
    obtain ⟨ha, hl⟩ := List.pairwise_cons.mp h1
    obtain ⟨hb, hl'⟩ := List.pairwise_cons.mp h2
    have e : a = b := by
      rcases List.mem_cons.mp ((h a).mp (List.mem_cons_self ..)) with q | q
      · exact q
      · rcases List.mem_cons.mp ((h b).mpr (List.mem_cons_self ..)) with q' | q'
        · exact q'.symm
        · have := hb a q; have := ha b q'; omega
    subst e
    congr 1
    refine eq_of_sorted l l' hl hl' fun x => ⟨fun hx => ?_, fun hx => ?_⟩
    · rcases List.mem_cons.mp ((h x).mp (List.mem_cons_of_mem _ hx)) with q | q
      · have := ha x hx; omega
      · exact q
    · rcases List.mem_cons.mp ((h x).mpr (List.mem_cons_of_mem _ hx)) with q | q
      · have := hb x hx; omega
      · exact q

/-- the mark at a place -/
def markAt (n : Int) (x : Int) : Int := if x = 0 then rFirst n else rStart n + rStep n * (x - 1)

theorem mem_rungs {start step last lo hi x : Int} (hs : 0 < step) : x ∈ rungsOf start step last lo hi ↔ 1 ≤ x ∧ x ≤ last + 1 ∧ lo ≤ start + step * (x - 1) ∧ start + step * (x - 1) ≤ hi := by
  have a1 : ∀ k : Int, k ≤ (start - lo).fdiv step ↔ k * step ≤ start - lo := fun k => by rw [Int.fdiv_eq_ediv_of_nonneg _ (by omega)]; exact Int.le_ediv_iff_mul_le hs
  have a2 : ∀ k : Int, k ≤ (hi - start).fdiv step ↔ k * step ≤ hi - start := fun k => by rw [Int.fdiv_eq_ediv_of_nonneg _ (by omega)]; exact Int.le_ediv_iff_mul_le hs
  have b1 := a1 (-(x - 1))
  have b2 := a2 (x - 1)
  rw [Int.neg_mul] at b1
  rw [Int.mul_comm] at b1 b2
  generalize step * (x - 1) = p at *
  unfold rungsOf mostOf leastOf rangeInts
  simp only [List.mem_map, List.mem_range]
  generalize (start - lo).fdiv step = u at *
  generalize (hi - start).fdiv step = v at *
  constructor
  · rintro ⟨r, ⟨i, h, rfl⟩, rfl⟩
    split at h <;> split at h <;> omega
  · rintro ⟨h1, h2, h3, h4⟩
    refine ⟨x - 1, ⟨(x - 1 - (if -u > 0 then -u else 0)).toNat, ?_, ?_⟩, by omega⟩
    · split <;> split <;> omega
    · split <;> omega

theorem rungs_sorted (start step last lo hi : Int) : (rungsOf start step last lo hi).Pairwise (· < ·) := by
  unfold rungsOf rangeInts
  rw [List.pairwise_map, List.pairwise_map]
  exact List.Pairwise.imp (fun {a b} h => by omega) List.pairwise_lt_range

theorem mem_divOne {n : Int} {r : Int × Int} {x : Int} : x ∈ divOne (rFirst n) (rStart n) (rStep n) (rLast n) r ↔ 0 ≤ x ∧ x < ((rMarks n).length : Int) ∧ r.1 ≤ markAt n x ∧ markAt n x ≤ r.2 := by
  have hs := step_range n
  unfold divOne
  rw [List.mem_append, mem_rungs (by omega), marks_len]
  unfold markAt
  constructor
  · rintro (h | h)
    · split at h
      · rename_i c
        simp only [List.mem_singleton] at h
        subst h
        rw [if_pos rfl]
        omega
      · cases h
    · rw [if_neg (by omega)]
      omega
  · rintro ⟨h1, h2, h3, h4⟩
    by_cases q : x = 0
    · rw [if_pos q] at h3 h4
      left
      rw [if_pos ⟨h3, h4⟩, q]
      exact List.mem_singleton.mpr rfl
    · rw [if_neg q] at h3 h4
      right
      omega

theorem divOne_sorted (n : Int) (r : Int × Int) : (divOne (rFirst n) (rStart n) (rStep n) (rLast n) r).Pairwise (· < ·) := by
  have hs := step_range n
  unfold divOne
  rw [List.pairwise_append]
  refine ⟨?_, rungs_sorted _ _ _ _ _, fun a ha b hb => ?_⟩
  · split
    · exact List.pairwise_singleton ..
    · exact List.Pairwise.nil
  · have := (mem_rungs (by omega)).mp hb
    split at ha
    · simp only [List.mem_singleton] at ha; omega
    · cases ha

theorem mark_mono {n x y : Int} (h0 : 0 ≤ x) (h : x < y) : markAt n x < markAt n y := by
  have hs := step_range n
  have hn := near_range n
  unfold markAt
  rw [if_neg (show ¬ y = 0 by omega)]
  split
  · have : 0 ≤ rStep n * (y - 1) := Int.mul_nonneg (by omega) (by omega)
    unfold rStart
    omega
  · have : rStep n * (x - 1) < rStep n * (y - 1) := Int.mul_lt_mul_of_pos_left (by omega) (by omega)
    omega

theorem divOf_sorted (n : Int) {rs : List (Int × Int)} (h : rs.Pairwise fun a b => a.2 < b.1) : (divOf (rFirst n) (rStart n) (rStep n) (rLast n) rs).Pairwise (· < ·) := by
  unfold divOf
  rw [List.pairwise_flatMap]
  refine ⟨fun r _ => divOne_sorted n r, h.imp fun {a b} hab x hx y hy => ?_⟩
  have hx := mem_divOne.mp hx
  have hy := mem_divOne.mp hy
  rcases Int.lt_or_le x y with q | q
  · exact q
  · exfalso
    rcases Int.lt_or_eq_of_le q with q | q
    · have := mark_mono (n := n) hy.1 q; omega
    · subst q; omega

theorem marks_get (n : Int) {k : Nat} (h : k < (rMarks n).length) : (rMarks n).getD k 0 = markAt n k := by
  rw [marks_len] at h
  unfold markAt rMarks rRungs
  cases k with
  | zero => rfl
  | succ k =>
    rw [if_neg (by omega)]
    have hk : k < (rLast n + 1).toNat := by omega
    simp only [List.getD, List.getElem?_cons_succ, List.getElem?_map, rangeInts_get hk, Option.map_some, Option.getD_some]
    congr 2
    omega

theorem held_sorted (cs : List Int) (j i : Nat) : (heldTo cs j i).Pairwise (· < ·) := by
  unfold heldTo
  rw [List.pairwise_map]
  exact List.Pairwise.imp (fun {a b} h => by omega) (List.pairwise_lt_range.filter _)
theorem mem_held {cs : List Int} {j i : Nat} {x : Int} : x ∈ heldTo cs j i ↔ ∃ k : Nat, x = (k : Int) ∧ k < i ∧ colAt (cs.getD k 0) j = true := by
  refine ⟨heldTo_mem, fun ⟨k, h1, h2, h3⟩ => ?_⟩
  unfold heldTo
  exact List.mem_map.mpr ⟨k, List.mem_filter.mpr ⟨List.mem_range.mpr h2, h3⟩, h1.symm⟩

theorem runs_sorted : ∀ rs ∈ allRuns, rs.Pairwise fun a b => a.2 < b.1 := by decide

theorem div_held (n : Int) (tab : ∀ j rs c, allRuns[j]? = some rs → 0 ≤ c → c ≤ 1114111 → (colAt c j = true ↔ ∃ r ∈ rs, r.1 ≤ c ∧ c ≤ r.2)) (j : Nat) (rs : List (Int × Int)) (hj : allRuns[j]? = some rs) :
    divOf (rFirst n) (rStart n) (rStep n) (rLast n) rs = heldTo (rMarks n) j (rMarks n).length := by
  refine eq_of_sorted _ _ (divOf_sorted n (runs_sorted rs (List.mem_of_getElem? hj))) (held_sorted ..) fun x => ?_
  unfold divOf
  rw [List.mem_flatMap, mem_held]
  constructor
  · rintro ⟨r, hr, hx⟩
    obtain ⟨h1, h2, h3, h4⟩ := mem_divOne.mp hx
    refine ⟨x.toNat, by omega, by omega, ?_⟩
    have hk : x.toNat < (rMarks n).length := by omega
    rw [marks_get n hk, show ((x.toNat : Nat) : Int) = x by omega]
    have hm := marks_ok n ((rMarks n).getD x.toNat 0) (by simp only [List.getD, List.getElem?_eq_getElem hk, Option.getD_some]; exact List.getElem_mem _)
    rw [marks_get n hk, show ((x.toNat : Nat) : Int) = x by omega] at hm
    exact (tab j rs _ hj hm.1 hm.2).mpr ⟨r, hr, h3, h4⟩
  · rintro ⟨k, rfl, hk, hc⟩
    have hm := marks_ok n ((rMarks n).getD k 0) (by simp only [List.getD, List.getElem?_eq_getElem hk, Option.getD_some]; exact List.getElem_mem _)
    obtain ⟨r, hr, h3, h4⟩ := (tab j rs _ hj hm.1 hm.2).mp hc
    rw [marks_get n hk] at h3 h4
    exact ⟨r, hr, mem_divOne.mpr ⟨by omega, by omega, h3, h4⟩⟩
end Mine
end

section
open PySem PySem.W PyProof.Rows PySem.SeqAt
set_option maxRecDepth 100000
namespace Mine

theorem any_range {a c : Int} {n : Nat} : ((List.range n).map fun i : Nat => a + (i : Int)).any (· == c) = true ↔ a ≤ c ∧ c < a + n := by
  rw [List.any_eq_true]
  constructor
  · rintro ⟨x, hx, e⟩
    obtain ⟨i, hi, rfl⟩ := List.mem_map.mp hx
    have := eq_of_beq e
    have := List.mem_range.mp hi
    omega
  · rintro ⟨h1, h2⟩
    exact ⟨c, List.mem_map.mpr ⟨(c - a).toNat, List.mem_range.mpr (by omega), by omega⟩, by simp⟩

theorem any_cons {a c : Int} {l : List Int} : (a :: l).any (· == c) = true ↔ c = a ∨ l.any (· == c) = true := by
  rw [List.any_cons, Bool.or_eq_true]
  constructor
  · rintro (h | h)
    · exact .inl (eq_of_beq h).symm
    · exact .inr h
  · rintro (h | h)
    · exact .inl (by simp [h])
    · exact .inr h
theorem any_nil {c : Int} : ([] : List Int).any (· == c) = true ↔ False := by simp
theorem any_append {l l' : List Int} {c : Int} : (l ++ l').any (· == c) = true ↔ l.any (· == c) = true ∨ l'.any (· == c) = true := by simp [List.any_append]

theorem ex_cons {r : Int × Int} {l : List (Int × Int)} {c : Int} : (∃ q ∈ r :: l, q.1 ≤ c ∧ c ≤ q.2) ↔ (r.1 ≤ c ∧ c ≤ r.2) ∨ ∃ q ∈ l, q.1 ≤ c ∧ c ≤ q.2 := by
  constructor
  · rintro ⟨q, hq, h⟩
    rcases List.mem_cons.mp hq with rfl | hq
    · exact .inl h
    · exact .inr ⟨q, hq, h⟩
  · rintro (h | ⟨q, hq, h⟩)
    · exact ⟨r, List.mem_cons_self .., h⟩
    · exact ⟨q, List.mem_cons_of_mem _ hq, h⟩
theorem ex_nil {c : Int} : (∃ q ∈ ([] : List (Int × Int)), q.1 ≤ c ∧ c ≤ q.2) ↔ False := by simp

theorem b1_any {c : Int} : b1L.any (· == c) = true ↔ ∃ r ∈ [((173 : Int), (173 : Int)), (847, 847), (6150, 6150), (6155, 6157), (8203, 8205), (8288, 8288), (65024, 65039), (65279, 65279)], r.1 ≤ c ∧ c ≤ r.2 := by
  unfold b1L
  rw [any_append, any_range]
  simp only [any_cons, any_nil, ex_cons, ex_nil, or_false]
  omega
theorem c6_any {c : Int} : c6L.any (· == c) = true ↔ ∃ r ∈ [((65529 : Int), (65533 : Int))], r.1 ≤ c ∧ c ≤ r.2 := by
  unfold c6L
  rw [any_range]
  simp only [ex_cons, ex_nil, or_false]
  omega
theorem c7_any {c : Int} : c7L.any (· == c) = true ↔ ∃ r ∈ [((12272 : Int), (12283 : Int))], r.1 ≤ c ∧ c ≤ r.2 := by
  unfold c7L
  rw [any_range]
  simp only [ex_cons, ex_nil, or_false]
  omega
theorem c8_any {c : Int} : c8L.any (· == c) = true ↔ ∃ r ∈ [((832 : Int), (833 : Int)), (8206, 8207), (8234, 8238), (8298, 8303)], r.1 ≤ c ∧ c ≤ r.2 := by
  unfold c8L
  rw [any_append, any_append, any_range, any_range]
  simp only [any_cons, any_nil, ex_cons, ex_nil, or_false]
  omega
theorem c9_any {c : Int} : c9L.any (· == c) = true ↔ ∃ r ∈ [((917505 : Int), (917505 : Int)), (917536, 917631)], r.1 ≤ c ∧ c ≤ r.2 := by
  unfold c9L
  rw [any_append, any_range]
  simp only [any_cons, any_nil, ex_cons, ex_nil, or_false]
  omega
theorem c4_any {c : Int} (h0 : 0 ≤ c) (h1 : c ≤ 1114111) : inC4 c = true ↔ ∃ r ∈ ((64976 : Int), (65007 : Int)) :: planeRuns, r.1 ≤ c ∧ c ≤ r.2 := by
  rw [ex_cons]
  have e : (∃ q ∈ planeRuns, q.1 ≤ c ∧ c ≤ q.2) ↔ 65534 ≤ c % 65536 := by
    unfold planeRuns
    constructor
    · rintro ⟨q, hq, h⟩
      obtain ⟨p, hp, rfl⟩ := List.mem_map.mp hq
      dsimp only at h
      omega
    · intro h
      exact ⟨_, List.mem_map.mpr ⟨(c / 65536).toNat, List.mem_range.mpr (by omega), rfl⟩, by dsimp only; omega, by dsimp only; omega⟩
  rw [e]
  unfold inC4
  dsimp only
  split
  · simp only [Bool.false_eq_true, false_iff]; omega
  · split
    · simp only [true_iff]; omega
    · rw [bitAnd_m16]
      simp only [any_cons, any_nil, or_false]
      omega

theorem tab_law (j : Nat) (rs : List (Int × Int)) (c : Int) (hj : allRuns[j]? = some rs) (h0 : 0 ≤ c) (h1 : c ≤ 1114111) : colAt c j = true ↔ ∃ r ∈ rs, r.1 ≤ c ∧ c ≤ r.2 := by
  have sur : ∀ rs ∈ allRuns, ∀ r ∈ rs, r.2 < 55296 ∨ 57343 < r.1 := by decide
  unfold colAt toldOf
  by_cases q : 55296 ≤ c ∧ c ≤ 57343
  · rw [if_pos q]
    have hf : (List.replicate 7 false).getD j false = false := by
      simp only [List.getD, List.getElem?_replicate]
      split <;> rfl
    rw [hf]
    simp only [Bool.false_eq_true, false_iff]
    rintro ⟨r, hr, h⟩
    have := sur rs (List.mem_of_getElem? hj) r hr
    omega
  · rw [if_neg q]
    match j, hj with
    | 0, hj => cases hj; exact b1_any
    | 1, hj =>
      cases hj
      simp only [ex_cons, ex_nil, or_false]
      show (c == 32) = true ↔ _
      rw [beq_iff_eq]
      omega
    | 2, hj => cases hj; exact c4_any h0 h1
    | 3, hj => cases hj; exact c6_any
    | 4, hj => cases hj; exact c7_any
    | 5, hj => cases hj; exact c8_any
    | 6, hj => cases hj; exact c9_any
    | k + 7, hj => simp [allRuns] at hj

-- the marks
def rungsTo (n : Int) (j : Nat) : List Int := (rangeInts 0 1 j).map fun r => rStart n + rStep n * r
theorem rungsTo_succ (n : Int) (j : Nat) : rungsTo n (j + 1) = rungsTo n j ++ [rStart n + rStep n * j] := by
  unfold rungsTo
  rw [FinIter.rangeInts_succ, List.map_append]
  simp
theorem rungsTo_len (n : Int) (j : Nat) : (rungsTo n j).length = j := by unfold rungsTo; simp [rangeInts_length]

theorem go_rep (n : Int) : ∀ (c j : Nat) (reached : Int), reached = rStart n + rStep n * ((j : Int) - 1) → 1 ≤ j → j ≤ 11 → (j : Int) ≤ (1114111 - rStart n).fdiv (rStep n) + 1 →
    ∃ i : Nat, marksGo (List.replicate c (rStep n)) reached (rFirst n :: rungsTo n j) = rFirst n :: rungsTo n i ∧
      (i : Int) = (if (if (1114111 - rStart n).fdiv (rStep n) < 10 then (1114111 - rStart n).fdiv (rStep n) else 10) < (j : Int) + c - 1 then (if (1114111 - rStart n).fdiv (rStep n) < 10 then (1114111 - rStart n).fdiv (rStep n) else 10) else (j : Int) + c - 1) + 1
  | 0, j, reached, hr, h1, h2, h3 => ⟨j, rfl, by
      generalize (1114111 - rStart n).fdiv (rStep n) = q at *
      split <;> split <;> omega⟩
  | c + 1, j, reached, hr, h1, h2, h3 => by
    have hs := step_range n
    have a2 : (j : Int) ≤ (1114111 - rStart n).fdiv (rStep n) ↔ (j : Int) * rStep n ≤ 1114111 - rStart n := by
      rw [Int.fdiv_eq_ediv_of_nonneg _ (by omega)]; exact Int.le_ediv_iff_mul_le (by omega)
    have er : reached + rStep n = rStart n + rStep n * (j : Int) := by rw [hr, Int.mul_sub]; omega
    rw [Int.mul_comm] at a2
    show ∃ i : Nat, (if reached + rStep n > 1114111 ∨ (rFirst n :: rungsTo n j).length = 12 then _ else marksGo (List.replicate c (rStep n)) (reached + rStep n) ((rFirst n :: rungsTo n j) ++ [reached + rStep n])) = _ ∧ _
    have hl : (rFirst n :: rungsTo n j).length = j + 1 := by rw [List.length_cons, rungsTo_len]
    by_cases q : reached + rStep n > 1114111 ∨ (rFirst n :: rungsTo n j).length = 12
    · rw [if_pos q]
      refine ⟨j, rfl, ?_⟩
      rw [hl, er] at q
      generalize rStep n * (j : Int) = p at *
      generalize (1114111 - rStart n).fdiv (rStep n) = u at *
      split <;> split <;> omega
    · rw [if_neg q]
      rw [hl, er] at q
      rw [er, List.cons_append, ← rungsTo_succ]
      have e1 : ((j : Int) + 1) - 1 = j := by omega
      obtain ⟨i, x1, x2⟩ := go_rep n c (j + 1) (rStart n + rStep n * (j : Int)) (by rw [Int.natCast_add, Int.natCast_one, e1]) (by omega) (by omega) (by
        generalize rStep n * (j : Int) = p at *
        omega)
      refine ⟨i, x1, ?_⟩
      rw [x2]
      generalize (1114111 - rStart n).fdiv (rStep n) = u at *
      split <;> split <;> split <;> omega

theorem gen_sizes (n : Int) : ∃ c : Nat, gen 13 (rSizes n) none = rFirst n :: rNear n :: List.replicate c (rStep n) ∧ (c = 11 ∧ rTop n = 10 ∨ c = 1 ∧ rTop n = 1) := by
  have he := ending_range n
  have h1 := first_range n
  have h2 := near_range n
  have h3 := wide_range n
  have h4 := wide_not127 n
  have e : rEnding n = 0 ∨ rEnding n = 1 ∨ rEnding n = 2 ∨ rEnding n = 3 := by omega
  have n1 : ¬ rFirst n = 127 := h1.2.2
  have n2 : ¬ rFirst n = 0 := by omega
  have n3 : ¬ rNear n = 127 := by omega
  have n4 : ¬ rNear n = 0 := by omega
  have n5 : ¬ rWide n = 0 := by omega
  unfold rSizes rStep rTop
  rcases e with h | h | h | h <;> rw [h]
  · exact ⟨11, by simp [menuOf, gen, n1, n2, n3, n4, h4, n5, List.replicate], .inl ⟨rfl, rfl⟩⟩
  · exact ⟨1, by simp [menuOf, gen, n1, n2, n3, n4, h4, n5, List.replicate], .inr ⟨rfl, rfl⟩⟩
  · exact ⟨1, by simp [menuOf, gen, n1, n2, n3, n4, h4, n5, List.replicate], .inr ⟨rfl, rfl⟩⟩
  · exact ⟨11, by simp [menuOf, gen, n1, n2, n3, n4, h4, n5, List.replicate], .inl ⟨rfl, rfl⟩⟩

theorem marks_law (n : Int) : marksOf (rSizes n) = rMarks n := by
  obtain ⟨c, e, hc⟩ := gen_sizes n
  have h1 := first_range n
  have hs := step_range n
  have hst := start_range n
  unfold marksOf
  rw [e]
  have q0 : ¬ (0 + rFirst n > 1114111 ∨ ([] : List Int).length = 12) := by
    rintro (h | h)
    · omega
    · cases h
  show (if 0 + rFirst n > 1114111 ∨ ([] : List Int).length = 12 then _ else marksGo (rNear n :: List.replicate c (rStep n)) (0 + rFirst n) ([] ++ [0 + rFirst n])) = _
  rw [if_neg q0, Int.zero_add, List.nil_append]
  have a0 : (0 : Int) ≤ (1114111 - rStart n).fdiv (rStep n) ↔ 0 * rStep n ≤ 1114111 - rStart n := by
    rw [Int.fdiv_eq_ediv_of_nonneg _ (by omega)]; exact Int.le_ediv_iff_mul_le (by omega)
  rw [Int.zero_mul] at a0
  show (if rFirst n + rNear n > 1114111 ∨ ([rFirst n] : List Int).length = 12 then [rFirst n] else marksGo (List.replicate c (rStep n)) (rFirst n + rNear n) ([rFirst n] ++ [rFirst n + rNear n])) = _
  have es : rFirst n + rNear n = rStart n := rfl
  rw [es]
  unfold rMarks rRungs
  show _ = rFirst n :: rungsTo n (rLast n + 1).toNat
  by_cases q : rStart n > 1114111
  · rw [if_pos (.inl q)]
    have : (rLast n + 1).toNat = 0 := by
      unfold rLast
      generalize (1114111 - rStart n).fdiv (rStep n) = u at *
      split <;> omega
    rw [this]
    rfl
  · rw [if_neg (by rintro (h | h); exact q h; cases h)]
    have e1 : [rFirst n] ++ [rStart n] = rFirst n :: rungsTo n 1 := by
      show _ = rFirst n :: [rStart n + rStep n * (0 + ((0 : Nat) : Int) * 1)]
      simp
    rw [e1]
    obtain ⟨i, x1, x2⟩ := go_rep n c 1 (rStart n) (by simp) (by omega) (by omega) (by omega)
    rw [x1]
    congr 2
    unfold rLast
    generalize (1114111 - rStart n).fdiv (rStep n) = u at *
    rcases hc with ⟨rfl, ht⟩ | ⟨rfl, ht⟩ <;> rw [ht] <;> (split at x2 <;> split at x2 <;> split <;> omega)

theorem plain_law (n : Int) : PlainLaw n := ⟨marks_law n, fun j rs h => div_held n (fun j rs c h h0 h1 => tab_law j rs c h h0 h1) j rs h⟩
end Mine
end

section
open PySem PySem.W PyProof.Rows PySem.SeqAt
set_option maxRecDepth 100000
namespace Mine

theorem sub_range_set : isSubtype (.type "range") (.type "set") = pure false := by rw [isSubtype_type]; kernel_rfl
theorem sub_range_frozenset : isSubtype (.type "range") (.type "frozenset") = pure false := by rw [isSubtype_type]; kernel_rfl

section
variable {w : World} {A : Around} {E : Value → Shared → Prop} {s : Shared}

set_option maxHeartbeats 3200000 in
/-- set(range(..)) -/
theorem call_set_range {r : Addr} {a b c : Int} {t u v : Tok} {n : Nat} {Q : Value → Shared → Prop}
    (hh : A.handled = none) (hr : IsRange s.heap r a b c t u v) (hsmall : Builtin.Range.small a b c = true) (hn : Builtin.Range.rangeSize a b c = (n : Int)) (hb : n + 1 < scanBound)
    (h : ∀ (h' : Heap) (tk : Nat), h'.SetOf (intKind P w) s.heap.objs.size (fun k' => (firstMet (fun i => a + (i : Int) * c) n).any (· == k')) (firstMet (fun i => a + (i : Int) * c) n).length →
      (∀ b o, b < s.heap.objs.size → s.heap.get? b = some o → h'.get? b = some o) → Q (.ref s.heap.objs.size) { s with heap := h', toks := tk }) :
    wpAny (model P w) A (call (.type "set") [.ref r]) Q E s := by
  obtain ⟨c0, tl, hmro⟩ := F.called_set.mro
  have hmade := F.called_set.made
  have hsub := F.called_set.sub
  refine wpAny_call (codeAny_of_tree ?_)
  show wpAny _ _ (callAny (.type "set") _) _ _ _
  refine wpAny_pure ⟨Code.quiet_builtin _ (by decide +kernel), codeAny_builtin F.entry_type_call ?_⟩
  rw [Around.under_plain (weight_type_call_type "set" [.ref r] []) rfl]
  have h1 := F.called_set.notType
  have h2 := F.called_set.canCreate
  have hct := F.typeCall_set_1 (.ref r)
  repeat (any_goals (first | assumption | wp_step))
  refine codeAny_mono (code_set_new_1 (.ref r) (E := E) (Q₁ := fun obj s₁ => ∃ led : Bool, obj = .ref s.heap.objs.size ∧ s₁ = { s with heap := s.heap.push { cls := .type "set", dict := none, data := .set #[] 0 (.fresh 0 0 led) } }) fun led => ⟨led, rfl, rfl⟩) fun q s₁ hq => ?_
  cases q with
  | error e => exact hq
  | ok fl =>
    cases fl with
    | ret obj =>
      obtain ⟨led, rfl, rfl⟩ := hq
      have hS : (s.heap.push { cls := .type "set", dict := none, data := .set #[] 0 (.fresh 0 0 led) }).get? s.heap.objs.size = some { cls := .type "set", dict := none, data := .set #[] 0 (.fresh 0 0 led) } := Heap.get?_push_size _ rfl
      have hT : Shared.TypeIs { s with heap := s.heap.push { cls := .type "set", dict := none, data := .set #[] 0 (.fresh 0 0 led) } } (.ref s.heap.objs.size) "set" := ⟨_, hS, rfl⟩
      have hli := F.called_set.init.lookup
      have hbi := F.called_set.init.bind (.ref s.heap.objs.size)
      repeat (any_goals (first | assumption | wp_step))
      refine codeAny_mono (codeAny_call_builtin (R := wants (fun r s₂ => r = .none ∧ ∃ h' tk, s₂ = { s with heap := h', toks := tk } ∧
          h'.SetOf (intKind P w) s.heap.objs.size (fun k' => (firstMet (fun i => a + (i : Int) * c) n).any (· == k')) (firstMet (fun i => a + (i : Int) * c) n).length ∧
          (∀ b o, b < s.heap.objs.size → s.heap.get? b = some o → h'.get? b = some o)) E) F.called_set.init.plain F.entry_set_init (check_set_init_1 hT ?_)) fun r₂ s₂ hr₂ => ?_
      · have hlS : r < s.heap.objs.size := Heap.lt_size hr
        have hr' : IsRange (s.heap.push { cls := .type "set", dict := none, data := .set #[] 0 (.fresh 0 0 led) }) r a b c t u v := Heap.get?_push_of_some _ hr
        have hol' := hr'
        unfold IsRange at hol'
        have hsls := sub_range_set
        have hslf := sub_range_frozenset
        have hne : (Value.type "range" == Value.type "dict") = false := by decide
        unfold Builtin.«set.__init__» noKeywords Builtin.Frozenset.updateFrom
        generalize hPI : pyIter = PI
        wp_walk
        subst hPI
        refine wpAny_pyIter_range hr' hsmall ?_
        refine wpAny_bind (wpAny_runValue ?_)
        have hh3 : A.in1.in1.in1.handled = none := by simp [hh]
        rw [hn]
        have hSf : s.heap.objs.size ∉ [(s.heap.push { cls := .type "set", dict := none, data := .set #[] 0 (.fresh 0 0 led) }).objs.size] := by
          rw [Heap.size_push]; simp only [List.mem_singleton]
          exact Nat.ne_of_lt (Nat.lt_succ_self _)
        refine codeAny_set_update_loopS ((Walks.range hh3 (s.heap.push { cls := .type "set", dict := none, data := .set #[] 0 (.fresh 0 0 led) }).objs.size a c n).toS) s.heap.objs.size
          hSf (fun i => a + (i : Int) * c) (fun i v hv => hv) hb (n - 0) 0 _ (by omega) (Nat.zero_le _) ?hI0 ?hS0 ?hR
        case hI0 =>
          show IsRangeIter (Heap.push _ _) _ _ _ _
          unfold IsRangeIter
          rw [Heap.get?_push_size _ rfl]
          simp [rawInt]
        case hS0 =>
          have hget : ((s.heap.push { cls := .type "set", dict := none, data := .set #[] 0 (.fresh 0 0 led) }).push { cls := .type "range_iterator", data := .fields #[rawInt a, rawInt (n : Int), rawInt c] }).get? s.heap.objs.size
              = some { cls := .type "set", dict := none, data := .set #[] 0 (.fresh 0 0 led) } := Heap.get?_push_of_some _ hS
          exact SetOf_congr ((setObjOf_fresh (knd := intKind P w) led).setOf hget (by unfold scanBound; omega)) (fun _ => rfl) rfl
        case hR =>
          intro s' hm hS'
          obtain ⟨h', g', d', tk', os'⟩ := s'
          have eg : g' = s.gens := hm.gens
          have ed : d' = s.drawn := hm.drawn
          have eo : os' = s.os := hm.os
          subst eg; subst ed; subst eo
          show wpAny _ _ _ _ _ _
          refine wpAny_pure ?_
          show wpAny _ _ (ret Value.none) _ _ _
          refine wpAny_pure ⟨rfl, h', tk', rfl, hS', fun b o hb e => ?_⟩
          have hb1 : b ≠ s.heap.objs.size := Nat.ne_of_lt hb
          have hb2 : b ≠ (s.heap.push { cls := .type "set", dict := none, data := .set #[] 0 (.fresh 0 0 led) }).objs.size := by
            rw [Heap.size_push]; exact Nat.ne_of_lt (Nat.lt_succ_of_lt hb)
          exact hm.heap b o (by simp only [List.mem_cons, List.mem_singleton, List.not_mem_nil, or_false, not_or]; exact ⟨hb1, hb2⟩) (Heap.get?_push_of_some _ (Heap.get?_push_of_some _ e))
      · cases r₂ with
        | error e => exact hr₂
        | ok fl₂ =>
          cases fl₂ with
          | ret q =>
            obtain ⟨rfl, h', tk, rfl, hS', hk'⟩ := hr₂
            repeat (any_goals (first | assumption | wp_step))
            exact h _ _ hS' hk'
          | _ => exact hr₂.elim
    | _ => exact hq.elim
end
end Mine
end

section
open PySem PySem.W PyProof.Rows PySem.SeqAt
set_option maxRecDepth 100000
namespace Mine

/-- what stands from N on keeps a fact -/
def Stable (N : Nat) (f : Heap → Prop) : Prop := ∀ h h' : Heap, (∀ b o, N ≤ b → h.get? b = some o → h'.get? b = some o) → f h → f h'
theorem Stable.and {N : Nat} {f g : Heap → Prop} (x : Stable N f) (y : Stable N g) : Stable N (fun h => f h ∧ g h) := fun h h' k z => ⟨x h h' k z.1, y h h' k z.2⟩
theorem Stable.const {N : Nat} {p : Prop} : Stable N (fun _ => p) := fun _ _ _ x => x

def FnObj (N : Nat) (a : Addr) (nm : Str) (i : Nat) (h : Heap) : Prop :=
  N ≤ a ∧ ∃ c' pm, N ≤ c' ∧ h.get? a = some { cls := .type "function", data := .func (plainDef nm (dPar (stAt i)) (dBod (stAt i)) (dSco (stAt i)) pm (.ref c')) } ∧ h.CodeRec (.ref c') nm
theorem FnObj.stable {N : Nat} {a : Addr} {nm : Str} {i : Nat} : Stable N (FnObj N a nm i) := fun h h' k ⟨h1, c', pm, h2, h3, h4⟩ =>
  ⟨h1, c', pm, h2, k _ _ h1 h3, h4.at fun o e => k _ o h2 e⟩
def SetObj (w : World) (N : Nat) (v : Value) (l : List Int) (h : Heap) : Prop :=
  ∃ a, v = .ref a ∧ N ≤ a ∧ ∃ n, h.SetOf (intKind P w) a (fun k => l.any (· == k)) n
theorem SetObj.stable {w : World} {N : Nat} {v : Value} {l : List Int} : Stable N (SetObj w N v l) := fun h h' k ⟨a, e, h1, n, o, es, ep, t, ho, r⟩ =>
  ⟨a, e, h1, n, o, es, ep, t, k _ _ h1 ho, r⟩

def topFree : List Str := ["set", "list", "ord", "chr", "range", "len", "max", "min", "ValueError"]
/-- a name that the text binds, and none of those that matter elsewhere -/
structure OkName (x : Str) : Prop where
  free : x ∉ topFree
  bound : x ∈ startupNames ∨ x ∈ P.boundNames
  laid : x ∉ laidNames
  notB : x ≠ "__builtins__"

structure TS (mg0 mb : Str → Option Value) (K N : Nat) (c Pl : Addr) (s0 s : Shared) (mg : Str → Option Value) (ps : Array Value) (fs : Heap → Prop) : Prop where
  main : s.heap.Main mg c Pl ps
  b : s.heap.Ns builtinsNs mb
  old : ∀ b o, b ≠ mainGlobals → s0.heap.get? b = some o → s.heap.get? b = some o
  holds : fs s.heap
  stable : Stable N fs
  big : N ≤ s.heap.objs.size
  newP : s0.heap.objs.size ≤ Pl
  lowP : Pl < N
  lowG : mainGlobals < N
  os : s.os = s0.os
  gens : s.gens = #[]
  free : ∀ x ∈ topFree, mg x = none
  named : ∀ x v, mg x = some v → x ∈ startupNames ∨ x ∈ P.boundNames
  laid : ∀ x ∈ laidNames, mg x = mg0 x
  places : ∃ l : List (Pos × Addr), ps.toList = triples l ∧ ∀ q ∈ l, q.1.line < K

section
variable {w : World} {A : Around} {E : Value → Shared → Prop} {s0 s : Shared} {mg0 mg mb : Str → Option Value} {K N : Nat} {c Pl Fa : Addr} {ps : Array Value} {facts : Heap → Prop}

theorem TS.step {s' : Shared} {x : Str} {v : Value} {ps' : Array Value} {g : Heap → Prop} (T : TS mg0 mb K N c Pl s0 s mg ps facts) (ok : OkName x) (main' : s'.heap.Main (fun y => if y = x then some v else mg y) c Pl ps')
    (keep : ∀ b o, b ≠ Pl → b ≠ mainGlobals → s.heap.get? b = some o → s'.heap.get? b = some o) (hsz : s.heap.objs.size ≤ s'.heap.objs.size) (os : s'.os = s.os) (gens : s'.gens = s.gens) (hg : g s'.heap) (st : Stable N g) {K' : Nat} (hpl : ∃ l : List (Pos × Addr), ps'.toList = triples l ∧ ∀ q ∈ l, q.1.line < K') :
    TS mg0 mb K' N c Pl s0 s' (fun y => if y = x then some v else mg y) ps' (fun h => facts h ∧ g h) :=
  ⟨main', T.b.at' fun o e => keep _ o (Nat.ne_of_lt (Nat.lt_trans (show builtinsNs < mainGlobals by decide) T.main.low.2)) (by decide) e,
    fun b o nb e => keep b o (Nat.ne_of_lt (Nat.lt_of_lt_of_le (Heap.lt_size e) T.newP)) nb (T.old b o nb e),
    ⟨T.stable _ _ (fun b o hb e => keep b o (Nat.ne_of_gt (Nat.lt_of_lt_of_le T.lowP hb)) (Nat.ne_of_gt (Nat.lt_of_lt_of_le T.lowG hb)) e) T.holds, hg⟩,
    T.stable.and st, Nat.le_trans T.big hsz, T.newP, T.lowP, T.lowG, os.trans T.os, gens.trans T.gens,
    fun y hy => by
      show (if y = x then _ else mg y) = none
      rw [if_neg (show ¬ y = x from fun q => ok.free (q ▸ hy))]; exact T.free y hy,
    fun y u hu => by
      by_cases q : y = x
      · subst q; exact ok.bound
      · rw [if_neg q] at hu; exact T.named y u hu,
    fun y hy => by
      show (if y = x then _ else mg y) = mg0 y
      rw [if_neg (show ¬ y = x from fun q => ok.laid (q ▸ hy))]; exact T.laid y hy, hpl⟩

abbrev tEnv (c Fa : Addr) : Env := mainEnv P c Fa

theorem main_grown {h h' : Heap} (X : h.Main mg c Pl ps) (hk : ∀ b o, h.get? b = some o → h'.get? b = some o) : h'.Main mg c Pl ps := by
  obtain ⟨bm, o, hbm, hne0, hneG, hneP, hbo, hrest⟩ := X.bmod
  exact ⟨X.g.keeps hk, X.code.keeps hk, X.low, bm, o, hbm, hne0, hneG, hneP, hk _ _ hbo, hrest⟩

structure DefOk (i : Nat) (nm : Str) (pos : Pos) : Prop where
  st : stAt i = .FunctionDef nm (dPar (stAt i)) (dBod (stAt i)) [] none [] (dSco (stAt i)) none nm pos
  tree : PlainDefTree nm (dPar (stAt i)) (dBod (stAt i)) (dSco (stAt i)) pos
  free : ∀ x ∈ (dSco (stAt i)).names, x.2 ≠ .free
  doc : docOf (dBod (stAt i)) = none
  loc : P.main.scope.names.lookup nm = some .local
  q : qualnameIn { scope := P.main.scope, locals := mainGlobals, globals := mainGlobals, cells := [] } nm nm = nm
  ok : OkName nm

theorem top_def {nm : Str} {i : Nat} {pos : Pos} {Q : Flow → Shared → Prop} (T : TS mg0 mb K N c Pl s0 s mg ps facts) (D : DefOk i nm pos) (hK : K ≤ pos.line)
    (next : ∀ a ps' s', TS mg0 mb (pos.line + 1) N c Pl s0 s' (fun x => if x = nm then some (.ref a) else mg x) ps' (fun h => facts h ∧ FnObj N a nm i h) → Q .next s') :
    wpAny (model P w) A (exec (stAt i) (tEnv c Fa)) Q E s := by
  rw [D.st]
  obtain ⟨l, hl, hlt⟩ := T.places
  refine wpAny_plainDefN D.tree D.free D.doc D.loc D.q T.main (fun a c' h' tk ha hm hf hcd htb keep => ?_) D.ok.notB (by rfl) (by
    rw [hl]
    exact codeAmong_triples pos l fun q hq e => by have := hlt q hq; omega)
  refine next a _ _ (T.step (s' := { s with heap := h', toks := tk }) D.ok hm keep (Nat.le_trans ha (Nat.le_of_lt (Heap.lt_size hf))) rfl rfl ⟨Nat.le_trans T.big ha, c', _, Nat.le_trans T.big hcd.1, hf, hcd.2⟩ FnObj.stable ⟨l ++ [(pos, c')], ?_, fun q hq => ?_⟩)
  · rw [triples_append, ← hl]; simp
  · rcases List.mem_append.mp hq with h | h
    · have := hlt q h; omega
    · simp only [List.mem_singleton] at h; subst h; exact Nat.lt_succ_self _

theorem top_assign {x : Str} {pos' pos : Pos} {value : Expr} {G : Value → Heap → Prop} {Q : Flow → Shared → Prop} (T : TS mg0 mb K N c Pl s0 s mg ps facts)
    (hloc : P.main.scope.names.lookup x = some .local) (ok : OkName x)
    (hval : ∀ Q' : Value → Shared → Prop, (∀ v h₁ tk, (∀ b o, s.heap.get? b = some o → h₁.get? b = some o) → s.heap.objs.size ≤ h₁.objs.size → G v h₁ → Q' v { s with heap := h₁, toks := tk }) → wpAny (model P w) A (eval value (tEnv c Fa)) Q' E s)
    (hG : ∀ v, Stable N (G v))
    (next : ∀ v s', TS mg0 mb K N c Pl s0 s' (fun y => if y = x then some v else mg y) ps (fun h => facts h ∧ G v h) → Q .next s')
    (hs : swapsWith value (some (.Name x pos')) pos.line (tEnv c Fa) = pure false) :
    wpAny (model P w) A (exec (.Assign [.Name x pos'] value pos) (tEnv c Fa)) Q E s := by
  refine wpAny_Assign_Name (hval _ fun v h₁ tk hk hsz hg => ?_) hs
  have X := main_grown T.main hk
  refine wpAny_storeName_local (env := tEnv c Fa) hloc X.g (fun h' hg' hs' => ?_) (by rfl)
  obtain ⟨bm, o, hbm, hne0, hneG, hneP, hbo, hrest⟩ := X.bmod
  have hs' : Heap.SameBut mainGlobals h₁ h' := hs'
  have hm : h'.Main (fun y => if y = x then some v else mg y) c Pl ps :=
    ⟨hg', X.code.sameBut hs' (Nat.ne_of_gt X.low.1) (Nat.ne_of_gt X.low.2), X.low,
      ⟨bm, o, by simp only [Ne.symm ok.notB, if_false]; exact hbm, hne0, hneG, hneP, (hs'.2 _ hneG).trans hbo, hrest⟩⟩
  refine next v _ (T.step (s' := { s with heap := h', toks := _ }) ok hm (fun b o' _ nb e => (hs'.2 _ nb).trans (hk _ _ e)) (Nat.le_trans hsz (Nat.le_of_eq hs'.1.symm)) rfl rfl (hG v _ _ (fun b o' hb e => (hs'.2 b (Nat.ne_of_gt (Nat.lt_of_lt_of_le T.lowG hb))).trans e) hg) (hG v) T.places)

theorem topB {x : Str} {pos : Pos} {v : Value} {Q : Value → Shared → Prop} (hm : s.heap.Ns mainGlobals mg) (miss : mg x = none) (hb : s.heap.Ns builtinsNs mb) (hv : mb x = some v) (h : Q v s)
    (hd : (x == ("__debug__" : Str)) = false := by decide) : wpAny (model P w) A (eval (.Name x pos) (tEnv c Fa)) Q E s :=
  Calls.Name_module (env := tEnv c Fa) (by rfl) rfl (Calls.loadGlobal_builtin hm miss hb hv h) hd

/-- a display of written ints -/
def intOf : Expr → Option Int
  | .Constant (.int a) _ _ => some a
  | _ => none
def intsOf : List Expr → Option (List Int)
  | [] => some []
  | e :: es => match intOf e, intsOf es with
    | some a, some as => some (a :: as)
    | _, _ => none
theorem const_items {env : Env} {pos : Pos} : ∀ (es : List Expr) (ns : List Int) (s : Shared) (Q : List Value → Shared → Prop), intsOf es = some ns → (∀ vs tk, IntsAre vs ns → Q vs { s with toks := tk }) →
    wpAny (model P w) A (spliced (backTo pos (starEach es env))) Q E s
  | [], ns, s, Q, he, h => by
    cases he
    exact wpAny_items_nil (h [] s.toks .nil)
  | e :: es, ns, s, Q, he, h => by
    unfold intsOf at he
    split at he
    · rename_i a as ha has
      cases he
      unfold intOf at ha
      split at ha
      · cases ha
        exact wpAny_items_cons (wpAny_Constant_int (const_items es as _ _ has fun vs tk hv => h _ tk (.cons _ _ hv)))
      · cases ha
    · cases he
theorem const_list {env : Env} {pos : Pos} {es : List Expr} {ns : List Int} {Q : Value → Shared → Prop} (he : intsOf es = some ns) (hn : ns.length ≤ 4096)
    (h : ∀ vs tk, IntsAre vs ns → Q (.ref s.heap.objs.size) { s with heap := s.heap.push { cls := .type "list", data := .seq vs.toArray }, toks := tk }) : wpAny (model P w) A (eval (.List es pos) env) Q E s :=
  wpAny_List (const_items _ _ _ _ he fun vs tk hv => ⟨by rw [hv.length]; show _ ≤ 2 ^ 24; omega, h vs tk hv⟩)

/-- range(a, b) at the top -/
theorem tp_range {p q1 q2 pos : Pos} {k1 k2 : Nat} {a b : Int} {Q : Value → Shared → Prop} (hm : s.heap.Ns mainGlobals mg) (miss : mg "range" = none) (hb : s.heap.Ns builtinsNs mb) (hv : mb "range" = some (.type "range"))
    (h : ∀ r t u v tk h', IsRange h' r a b 1 t u v → (∀ b o, s.heap.get? b = some o → h'.get? b = some o) → s.heap.objs.size ≤ h'.objs.size → Q (.ref r) { s with heap := h', toks := tk }) :
    wpAny (model P w) A (eval (.Call (.Name "range" p) [.Constant (.int a) k1 q1, .Constant (.int b) k2 q2] [] pos) (tEnv c Fa)) Q E s := by
  refine wpAny_Call_NameR (topB hm miss hb hv ?_)
  rw [show backTo pos (starEach [.Constant (.int a) k1 q1, .Constant (.int b) k2 q2] (tEnv c Fa)) = [(false, eval (.Constant (.int a) k1 q1) (tEnv c Fa)), (false, eval (.Constant (.int b) k2 q2) (tEnv c Fa))] from by rfl]
  refine callWith_excType rfl (Calls.evalArgs_plain (Calls.spliced_cons (wpAny_Constant_int (Calls.spliced_cons (wpAny_Constant_int (Calls.spliced_nil ?_))))))
  exact call_range_2 (h _ _ _ _ _ _ (Heap.get?_push_size _ rfl) (fun b o e => Heap.get?_push_of_some _ e) (by rw [Heap.size_push]; exact Nat.le_succ _))

/-- list(range(a, b)) at the top -/
theorem top_list_range {p0 p q1 q2 pos0 pos : Pos} {k1 k2 : Nat} {a b : Int} {n : Nat} {Q : Value → Shared → Prop} (hh : A.handled = none) (hm : s.heap.Ns mainGlobals mg) (miss : mg "range" = none) (hb : s.heap.Ns builtinsNs mb) (hv : mb "range" = some (.type "range"))
    (miss2 : mg "list" = none) (hv2 : mb "list" = some (.type "list")) (hsmall : Builtin.Range.small a b 1 = true) (hn : Builtin.Range.rangeSize a b 1 = (n : Int)) (hlen : n ≤ 4096)
    (h : ∀ l ys tk h', h'.IsList l (List.toArray ys) → IntsAre ys ((List.range n).map fun i : Nat => a + (i : Int)) → (∀ b o, s.heap.get? b = some o → h'.get? b = some o) → s.heap.objs.size ≤ h'.objs.size → Q (.ref l) { s with heap := h', toks := tk }) :
    wpAny (model P w) A (eval (.Call (.Name "list" p0) [.Call (.Name "range" p) [.Constant (.int a) k1 q1, .Constant (.int b) k2 q2] [] pos] [] pos0) (tEnv c Fa)) Q E s := by
  refine wpAny_Call_NameR (topB hm miss2 hb hv2 ?_)
  rw [show backTo pos0 (starEach [.Call (.Name "range" p) [.Constant (.int a) k1 q1, .Constant (.int b) k2 q2] [] pos] (tEnv c Fa)) = [(false, eval (.Call (.Name "range" p) [.Constant (.int a) k1 q1, .Constant (.int b) k2 q2] [] pos) (tEnv c Fa))] from by rfl]
  refine callWith_excType rfl (Calls.evalArgs_plain (Calls.spliced_cons (tp_range hm miss hb hv fun r t u v tk h1 hr k1 z1 => Calls.spliced_nil ?_)))
  refine call_list_range hh hr hsmall hn (by omega) fun h' tk' acc' c' hk hS' hacc => ?_
  refine h _ acc'.toList _ _ ⟨_, hS', rfl, c', by simp⟩ ?_ (fun b o e => hk b o (k1 b o e)) (Nat.le_trans z1 (Nat.le_of_lt (Heap.lt_size hS')))
  have key : ∀ (vs : List Value) (ns : List Int), vs.length = ns.length → (∀ (j : Nat) v, vs[j]? = some v → ∃ t, v = .int (ns.getD j 0) t) → IntsAre vs ns := by
    intro vs
    induction vs with
    | nil => intro ns hl _; cases ns with | nil => exact .nil | cons _ _ => cases hl
    | cons v vs ih =>
      intro ns hl hv
      cases ns with
      | nil => cases hl
      | cons n ns =>
        obtain ⟨t, rfl⟩ := hv 0 v rfl
        exact .cons _ _ (ih ns (by simpa using hl) fun j v e => hv (j + 1) v (by simpa using e))
  refine key _ _ (by simp [hacc.1]) fun j v hv => ?_
  have hv' : acc'[j]? = some v := by simpa using hv
  obtain ⟨t, rfl⟩ := hacc.2 j v hv'
  have hj : j < n := by
    have := (Array.getElem?_eq_some_iff.mp hv').1
    rw [hacc.1] at this; exact this
  refine ⟨t, ?_⟩
  congr 1
  simp [List.getD, hj]

/-- set(e), e a new list of ints, at the top -/
theorem top_set {e : Expr} {p pos : Pos} {l : List Int} (T : TS mg0 mb K N c Pl s0 s mg ps facts) (hbi : ∀ x : Str, x ≠ "__name__" → mb x = bootBuiltins x) (hh : A.handled = none) (hb : l.length + 1 < scanBound)
    (hval : ∀ Q' : Value → Shared → Prop, (∀ la ys tk h1, h1.IsList la (List.toArray ys) → IntsAre ys l → (∀ b o, s.heap.get? b = some o → h1.get? b = some o) → s.heap.objs.size ≤ h1.objs.size → Q' (.ref la) { s with heap := h1, toks := tk }) → wpAny (model P w) A (eval e (tEnv c Fa)) Q' E s)
    (he : starEach [e] (tEnv c Fa) = [(false, eval e (tEnv c Fa))])
    (Q' : Value → Shared → Prop) (h : ∀ v h₁ tk, (∀ b o, s.heap.get? b = some o → h₁.get? b = some o) → s.heap.objs.size ≤ h₁.objs.size → SetObj w N v l h₁ → Q' v { s with heap := h₁, toks := tk }) :
    wpAny (model P w) A (eval (.Call (.Name "set" p) [e] [] pos) (tEnv c Fa)) Q' E s := by
  refine wpAny_Call_NameR (topB T.main.g (T.free _ (by decide)) T.b (v := .type "set") (by rw [hbi _ (by decide)]; rfl) ?_)
  rw [show backTo pos (starEach [e] (tEnv c Fa)) = [(false, eval e (tEnv c Fa))] from by rw [he]; rfl]
  refine callWith_excType rfl (Calls.evalArgs_plain (Calls.spliced_cons (hval _ fun la ys tk h1 hl hi hk hsz => Calls.spliced_nil ?_)))
  have hn : ys.toArray.size = l.length := by rw [List.size_toArray, hi.length]
  refine call_set_list hh hl (by simpa using hi) (by rw [hn]; exact hb) fun h' tk' hS hk' => ?_
  have hlt : h1.objs.size < h'.objs.size := by obtain ⟨o, es, ep, t, e, _⟩ := hS; exact Heap.lt_size e
  refine h _ h' tk' (fun b o e => hk' b o (Heap.lt_size (hk b o e)) (hk b o e)) (Nat.le_trans hsz (Nat.le_of_lt hlt)) ⟨_, rfl, Nat.le_trans T.big hsz, _, SetOf_congr hS (fun k => ?_) rfl⟩
  rw [firstMet_any, hn]
  congr 1
  refine List.ext_getElem (by simp) fun i h1 h2 => ?_
  simp [List.getD, h2]

/-- set(range(a, b)) at the top -/
theorem top_set_range {p0 p q1 q2 pos0 pos : Pos} {k1 k2 : Nat} {a b : Int} {n : Nat} {l : List Int} (T : TS mg0 mb K N c Pl s0 s mg ps facts) (hbi : ∀ x : Str, x ≠ "__name__" → mb x = bootBuiltins x) (hh : A.handled = none)
    (hsmall : Builtin.Range.small a b 1 = true) (hn : Builtin.Range.rangeSize a b 1 = (n : Int)) (hb : n + 1 < scanBound) (hl : l = (List.range n).map fun i : Nat => a + (i : Int))
    (Q' : Value → Shared → Prop) (h : ∀ v h₁ tk, (∀ b o, s.heap.get? b = some o → h₁.get? b = some o) → s.heap.objs.size ≤ h₁.objs.size → SetObj w N v l h₁ → Q' v { s with heap := h₁, toks := tk }) :
    wpAny (model P w) A (eval (.Call (.Name "set" p0) [.Call (.Name "range" p) [.Constant (.int a) k1 q1, .Constant (.int b) k2 q2] [] pos] [] pos0) (tEnv c Fa)) Q' E s := by
  refine wpAny_Call_NameR (topB T.main.g (T.free _ (by decide)) T.b (v := .type "set") (by rw [hbi _ (by decide)]; rfl) ?_)
  rw [show backTo pos0 (starEach [.Call (.Name "range" p) [.Constant (.int a) k1 q1, .Constant (.int b) k2 q2] [] pos] (tEnv c Fa)) = [(false, eval (.Call (.Name "range" p) [.Constant (.int a) k1 q1, .Constant (.int b) k2 q2] [] pos) (tEnv c Fa))] from by rfl]
  refine callWith_excType rfl (Calls.evalArgs_plain (Calls.spliced_cons (tp_range T.main.g (T.free _ (by decide)) T.b (by rw [hbi _ (by decide)]; rfl) fun r t u v tk h1 hr hk hsz => Calls.spliced_nil ?_)))
  refine call_set_range hh hr hsmall hn hb fun h' tk' hS hk' => ?_
  have hlt : h1.objs.size < h'.objs.size := by obtain ⟨o, es, ep, t, e, _⟩ := hS; exact Heap.lt_size e
  refine h _ h' tk' (fun b o e => hk' b o (Heap.lt_size (hk b o e)) (hk b o e)) (Nat.le_trans hsz (Nat.le_of_lt hlt)) ⟨_, rfl, Nat.le_trans T.big hsz, _, SetOf_congr hS (fun k => ?_) rfl⟩
  rw [firstMet_any, hl]
  congr 1
  refine List.map_congr_left fun i _ => by simp
end
end Mine
end

section
open PySem PySem.W PyProof.Rows PySem.SeqAt
set_option maxRecDepth 100000
namespace Mine

def okB (x : Str) : Bool := !topFree.contains x && ((startupNames.contains x || P.boundNames.contains x) && (!laidNames.contains x && !(x == ("__builtins__" : Str))))
theorem ok_of {x : Str} (h : okB x = true) : OkName x := by
  unfold okB at h
  obtain ⟨h1, h⟩ := Bool.and_eq_true_iff.mp h
  obtain ⟨h2, h⟩ := Bool.and_eq_true_iff.mp h
  obtain ⟨h3, h4⟩ := Bool.and_eq_true_iff.mp h
  refine ⟨fun q => ?_, ?_, fun q => ?_, fun q => ?_⟩
  · rw [List.contains_iff_mem.mpr q] at h1; cases h1
  · rcases Bool.or_eq_true_iff.mp h2 with q | q
    · exact .inl (List.contains_iff_mem.mp q)
    · exact .inr (List.contains_iff_mem.mp q)
  · rw [List.contains_iff_mem.mpr q] at h3; cases h3
  · subst q; cases h4

section
variable {w : World} {A : Around} {E : Value → Shared → Prop} {s0 s : Shared} {mg0 mg mb : Str → Option Value} {K N : Nat} {c Pl Fa : Addr} {ps : Array Value} {facts : Heap → Prop}

theorem top_int {x : Str} {pos' pos p : Pos} {k : Nat} {i : Int} {Q : Flow → Shared → Prop} (T : TS mg0 mb K N c Pl s0 s mg ps facts) (hloc : P.main.scope.names.lookup x = some .local) (ok : OkName x)
    (next : ∀ v s', TS mg0 mb K N c Pl s0 s' (fun y => if y = x then some v else mg y) ps (fun h => facts h ∧ ∃ t, v = .int i t) → Q .next s') (hs : swapsWith (.Constant (.int i) k p) (some (.Name x pos')) pos.line (tEnv c Fa) = pure false := by rfl) :
    wpAny (model P w) A (exec (.Assign [.Name x pos'] (.Constant (.int i) k p) pos) (tEnv c Fa)) Q E s :=
  top_assign (G := fun v _ => ∃ t, v = .int i t) T hloc ok (fun Q' h => wpAny_Constant_int (h _ _ _ (fun _ _ e => e) (Nat.le_refl _) ⟨_, rfl⟩)) (fun v => Stable.const) next hs
theorem top_str {x : Str} {pos' pos p : Pos} {k : Nat} {z : Str} {Q : Flow → Shared → Prop} (T : TS mg0 mb K N c Pl s0 s mg ps facts) (hloc : P.main.scope.names.lookup x = some .local) (ok : OkName x)
    (next : ∀ v s', TS mg0 mb K N c Pl s0 s' (fun y => if y = x then some v else mg y) ps (fun h => facts h ∧ True) → Q .next s') (hs : swapsWith (.Constant (.str z) k p) (some (.Name x pos')) pos.line (tEnv c Fa) = pure false := by rfl) :
    wpAny (model P w) A (exec (.Assign [.Name x pos'] (.Constant (.str z) k p) pos) (tEnv c Fa)) Q E s :=
  top_assign (G := fun v _ => True) T hloc ok (fun Q' h => Calls.Constant_str (h _ _ _ (fun _ _ e => e) (Nat.le_refl _) trivial)) (fun v => Stable.const) next hs

/-- a display and a list(range(..)) added -/
theorem list_plus_range {es : List Expr} {p1 p2 p3 p4 p5 p6 p7 pos0 : Pos} {k1 k2 : Nat} {a b : Int} {n : Nat} {ns : List Int} (T : TS mg0 mb K N c Pl s0 s mg ps facts) (hbi : ∀ x : Str, x ≠ "__name__" → mb x = bootBuiltins x) (hh : A.handled = none)
    (he : intsOf es = some ns) (hlen : ns.length + n ≤ 4096) (hsmall : Builtin.Range.small a b 1 = true) (hn : Builtin.Range.rangeSize a b 1 = (n : Int))
    (Q' : Value → Shared → Prop) (h : ∀ la ys tk h1, h1.IsList la (List.toArray ys) → IntsAre ys (ns ++ (List.range n).map fun i : Nat => a + (i : Int)) → (∀ b o, s.heap.get? b = some o → h1.get? b = some o) → s.heap.objs.size ≤ h1.objs.size → Q' (.ref la) { s with heap := h1, toks := tk }) :
    wpAny (model P w) A (eval (.BinOp (.List es p1) .Add (.Call (.Name "list" p2) [.Call (.Name "range" p3) [.Constant (.int a) k1 p4, .Constant (.int b) k2 p5] [] p6] [] p7) pos0) (tEnv c Fa)) Q' E s := by
  refine wpAny_BinOp (const_list he (by omega) fun vs tk hv => ?_)
  have k1' : ∀ b o, s.heap.get? b = some o → (s.heap.push { cls := .type "list", data := .seq vs.toArray }).get? b = some o := fun b o e => Heap.get?_push_of_some _ e
  have l1 := isList_push (h := s.heap) (vs := vs)
  have z1 : s.heap.objs.size ≤ (s.heap.push { cls := .type "list", data := .seq vs.toArray }).objs.size := by rw [Heap.size_push]; exact Nat.le_succ _
  have g1 := T.main.g.push { cls := .type "list", data := .seq vs.toArray }
  have b1 := T.b.push { cls := .type "list", data := .seq vs.toArray }
  generalize s.heap.push { cls := .type "list", data := .seq vs.toArray } = h1 at *
  refine top_list_range (s := { s with heap := h1, toks := tk }) hh g1 (T.free _ (by decide)) b1 (by rw [hbi _ (by decide)]; rfl) (T.free _ (by decide)) (by rw [hbi _ (by decide)]; rfl) hsmall hn (by omega) fun l ys tk2 h2 l2 i2 k2 z2 => ?_
  refine addL (l1.at fun o e => k2 _ o e) l2 (by rw [hv.length, i2.length, List.length_map, List.length_range]; omega) ?_
  refine h _ (vs ++ ys) _ _ isList_push (hv.append i2) (fun b o e => Heap.get?_push_of_some _ (k2 b o (k1' b o e))) (Nat.le_trans z1 (Nat.le_trans z2 (by rw [Heap.size_push]; exact Nat.le_succ _)))

theorem c8_list {p1 p2 p3 p4 p5 p6 p7 p8 p9 pa pb pc pd pe pos0 : Pos} {k1 k2 k3 k4 : Nat} {es : List Expr} (T : TS mg0 mb K N c Pl s0 s mg ps facts) (hbi : ∀ x : Str, x ≠ "__name__" → mb x = bootBuiltins x) (hh : A.handled = none)
    (Q' : Value → Shared → Prop) (h : ∀ la ys tk h1, h1.IsList la (List.toArray ys) → IntsAre ys c8L → (∀ b o, s.heap.get? b = some o → h1.get? b = some o) → s.heap.objs.size ≤ h1.objs.size → Q' (.ref la) { s with heap := h1, toks := tk })
    (he : intsOf es = some [832, 833, 8206, 8207] := by rfl) :
    wpAny (model P w) A (eval (.BinOp (.BinOp (.List es p1) .Add (.Call (.Name "list" p2) [.Call (.Name "range" p3) [.Constant (.int 8234) k1 p4, .Constant (.int 8239) k2 p5] [] p6] [] p7) p8) .Add
      (.Call (.Name "list" p9) [.Call (.Name "range" pa) [.Constant (.int 8298) k3 pb, .Constant (.int 8304) k4 pc] [] pd] [] pe) pos0) (tEnv c Fa)) Q' E s := by
  refine wpAny_BinOp (list_plus_range (n := 5) T hbi hh he (by decide) (by decide +kernel) (by decide +kernel) _ fun la ys tk h1 l1 i1 k1 z1 => ?_)
  refine top_list_range (n := 6) (s := { s with heap := h1, toks := tk }) hh (T.main.g.keeps k1) (T.free _ (by decide)) (T.b.keeps k1) (by rw [hbi _ (by decide)]; rfl) (T.free _ (by decide)) (by rw [hbi _ (by decide)]; rfl) (by decide +kernel) (by decide +kernel) (by decide) fun l zs tk2 h2 l2 i2 k2 z2 => ?_
  refine addL (l1.at fun o e => k2 _ o e) l2 (by rw [i1.length, i2.length]; decide) ?_
  exact h _ (ys ++ zs) _ _ isList_push (i1.append i2) (fun b o e => Heap.get?_push_of_some _ (k2 b o (k1 b o e))) (Nat.le_trans z1 (Nat.le_trans z2 (by rw [Heap.size_push]; exact Nat.le_succ _)))

end

theorem defOk_2 : DefOk 2 "_grouping_intervals" ⟨3, 0, 14, 32⟩ := ⟨by rfl, fun _ => by rfl, by decide, by rfl, by rfl, by rfl, ok_of (by decide +kernel)⟩
theorem defOk_5 : DefOk 5 "in_table_b1" ⟨17, 0, 18, 30⟩ := ⟨by rfl, fun _ => by rfl, by decide, by rfl, by rfl, by rfl, ok_of (by decide +kernel)⟩
theorem defOk_6 : DefOk 6 "in_table_c11" ⟨19, 0, 20, 22⟩ := ⟨by rfl, fun _ => by rfl, by decide, by rfl, by rfl, by rfl, ok_of (by decide +kernel)⟩
theorem defOk_7 : DefOk 7 "in_table_c4" ⟨21, 0, 27, 46⟩ := ⟨by rfl, fun _ => by rfl, by decide, by rfl, by rfl, by rfl, ok_of (by decide +kernel)⟩
theorem defOk_9 : DefOk 9 "in_table_c6" ⟨29, 0, 30, 30⟩ := ⟨by rfl, fun _ => by rfl, by decide, by rfl, by rfl, by rfl, ok_of (by decide +kernel)⟩
theorem defOk_11 : DefOk 11 "in_table_c7" ⟨32, 0, 33, 30⟩ := ⟨by rfl, fun _ => by rfl, by decide, by rfl, by rfl, by rfl, ok_of (by decide +kernel)⟩
theorem defOk_13 : DefOk 13 "in_table_c8" ⟨35, 0, 36, 30⟩ := ⟨by rfl, fun _ => by rfl, by decide, by rfl, by rfl, by rfl, ok_of (by decide +kernel)⟩
theorem defOk_15 : DefOk 15 "in_table_c9" ⟨38, 0, 39, 30⟩ := ⟨by rfl, fun _ => by rfl, by decide, by rfl, by rfl, by rfl, ok_of (by decide +kernel)⟩
theorem defOk_17 : DefOk 17 "_law_runs" ⟨41, 0, 42, 359⟩ := ⟨by rfl, fun _ => by rfl, by decide, by rfl, by rfl, by rfl, ok_of (by decide +kernel)⟩
theorem defOk_18 : DefOk 18 "_law_told" ⟨43, 0, 47, 145⟩ := ⟨by rfl, fun _ => by rfl, by decide, by rfl, by rfl, by rfl, ok_of (by decide +kernel)⟩
theorem defOk_19 : DefOk 19 "_law_marks" ⟨48, 0, 59, 26⟩ := ⟨by rfl, fun _ => by rfl, by decide, by rfl, by rfl, by rfl, ok_of (by decide +kernel)⟩
theorem defOk_20 : DefOk 20 "_law_by_division" ⟨60, 0, 68, 14⟩ := ⟨by rfl, fun _ => by rfl, by decide, by rfl, by rfl, by rfl, ok_of (by decide +kernel)⟩
theorem defOk_21 : DefOk 21 "_law_ruler_is_right" ⟨69, 0, 98, 15⟩ := ⟨by rfl, fun _ => by rfl, by decide, by rfl, by rfl, by rfl, ok_of (by decide +kernel)⟩
theorem defOk_22 : DefOk 22 "law" ⟨99, 0, 105, 15⟩ := ⟨by rfl, fun _ => by rfl, by decide, by rfl, by rfl, by rfl, ok_of (by decide +kernel)⟩

section
variable {w : World} {A : Around} {E : Value → Shared → Prop} {s0 s : Shared} {mg0 mg mb : Str → Option Value} {K N : Nat} {c Pl Fa : Addr} {ps : Array Value} {facts : Heap → Prop} {Q : Flow → Shared → Prop}
theorem step_0 (T : TS mg0 mb K N c Pl s0 s mg ps facts) (hbi : ∀ x : Str, x ≠ "__name__" → mb x = bootBuiltins x) (hh : A.handled = none)
    (next : ∀ v s', TS mg0 mb K N c Pl s0 s' (fun y => if y = "__name__" then some v else mg y) ps (fun h => facts h ∧ True) → Q .next s') :
    wpAny (model P w) A (exec (stAt 0) (tEnv c Fa)) Q E s :=
  top_str (x := "__name__") T (by rfl) (ok_of (by decide +kernel)) next
theorem step_1 (T : TS mg0 mb K N c Pl s0 s mg ps facts) (hbi : ∀ x : Str, x ≠ "__name__" → mb x = bootBuiltins x) (hh : A.handled = none)
    (next : ∀ v s', TS mg0 mb K N c Pl s0 s' (fun y => if y = "CHAR_MAX" then some v else mg y) ps (fun h => facts h ∧ ∃ t, v = .int 127 t) → Q .next s') :
    wpAny (model P w) A (exec (stAt 1) (tEnv c Fa)) Q E s :=
  top_int (x := "CHAR_MAX") (i := 127) T (by rfl) (ok_of (by decide +kernel)) next
theorem step_3 (T : TS mg0 mb K N c Pl s0 s mg ps facts) (hbi : ∀ x : Str, x ≠ "__name__" → mb x = bootBuiltins x) (hh : A.handled = none)
    (next : ∀ v s', TS mg0 mb K N c Pl s0 s' (fun y => if y = "__name__" then some v else mg y) ps (fun h => facts h ∧ True) → Q .next s') :
    wpAny (model P w) A (exec (stAt 3) (tEnv c Fa)) Q E s :=
  top_str (x := "__name__") T (by rfl) (ok_of (by decide +kernel)) next
theorem step_4 (T : TS mg0 mb K N c Pl s0 s mg ps facts) (hbi : ∀ x : Str, x ≠ "__name__" → mb x = bootBuiltins x) (hh : A.handled = none)
    (next : ∀ v s', TS mg0 mb K N c Pl s0 s' (fun y => if y = "b1_set" then some v else mg y) ps (fun h => facts h ∧ SetObj w N v b1L h) → Q .next s') :
    wpAny (model P w) A (exec (stAt 4) (tEnv c Fa)) Q E s :=
  top_assign (x := "b1_set") (G := fun v h => SetObj w N v b1L h) T (by rfl) (ok_of (by decide +kernel)) (fun Q' h => top_set (l := b1L) T hbi hh (by decide) (fun Q2 h2 => list_plus_range (n := 16) (ns := [173, 847, 6150, 6155, 6156, 6157, 8203, 8204, 8205, 8288, 65279]) T hbi hh (by rfl) (by decide) (by decide +kernel) (by decide +kernel) Q2 h2) (by rfl) Q' h) (fun v => SetObj.stable) next (by rfl)
theorem step_8 (T : TS mg0 mb K N c Pl s0 s mg ps facts) (hbi : ∀ x : Str, x ≠ "__name__" → mb x = bootBuiltins x) (hh : A.handled = none)
    (next : ∀ v s', TS mg0 mb K N c Pl s0 s' (fun y => if y = "c6_set" then some v else mg y) ps (fun h => facts h ∧ SetObj w N v c6L h) → Q .next s') :
    wpAny (model P w) A (exec (stAt 8) (tEnv c Fa)) Q E s :=
  top_assign (x := "c6_set") (G := fun v h => SetObj w N v c6L h) T (by rfl) (ok_of (by decide +kernel)) (fun Q' h => top_set_range (n := 5) (l := c6L) T hbi hh (by decide +kernel) (by decide +kernel) (by decide) (by rfl) Q' h) (fun v => SetObj.stable) next (by rfl)
theorem step_10 (T : TS mg0 mb K N c Pl s0 s mg ps facts) (hbi : ∀ x : Str, x ≠ "__name__" → mb x = bootBuiltins x) (hh : A.handled = none)
    (next : ∀ v s', TS mg0 mb K N c Pl s0 s' (fun y => if y = "c7_set" then some v else mg y) ps (fun h => facts h ∧ SetObj w N v c7L h) → Q .next s') :
    wpAny (model P w) A (exec (stAt 10) (tEnv c Fa)) Q E s :=
  top_assign (x := "c7_set") (G := fun v h => SetObj w N v c7L h) T (by rfl) (ok_of (by decide +kernel)) (fun Q' h => top_set_range (n := 12) (l := c7L) T hbi hh (by decide +kernel) (by decide +kernel) (by decide) (by rfl) Q' h) (fun v => SetObj.stable) next (by rfl)
theorem step_12 (T : TS mg0 mb K N c Pl s0 s mg ps facts) (hbi : ∀ x : Str, x ≠ "__name__" → mb x = bootBuiltins x) (hh : A.handled = none)
    (next : ∀ v s', TS mg0 mb K N c Pl s0 s' (fun y => if y = "c8_set" then some v else mg y) ps (fun h => facts h ∧ SetObj w N v c8L h) → Q .next s') :
    wpAny (model P w) A (exec (stAt 12) (tEnv c Fa)) Q E s :=
  top_assign (x := "c8_set") (G := fun v h => SetObj w N v c8L h) T (by rfl) (ok_of (by decide +kernel)) (fun Q' h => top_set (l := c8L) T hbi hh (by decide) (fun Q2 h2 => c8_list T hbi hh Q2 h2) (by rfl) Q' h) (fun v => SetObj.stable) next (by rfl)
theorem step_14 (T : TS mg0 mb K N c Pl s0 s mg ps facts) (hbi : ∀ x : Str, x ≠ "__name__" → mb x = bootBuiltins x) (hh : A.handled = none)
    (next : ∀ v s', TS mg0 mb K N c Pl s0 s' (fun y => if y = "c9_set" then some v else mg y) ps (fun h => facts h ∧ SetObj w N v c9L h) → Q .next s') :
    wpAny (model P w) A (exec (stAt 14) (tEnv c Fa)) Q E s :=
  top_assign (x := "c9_set") (G := fun v h => SetObj w N v c9L h) T (by rfl) (ok_of (by decide +kernel)) (fun Q' h => top_set (l := c9L) T hbi hh (by decide) (fun Q2 h2 => list_plus_range (n := 96) (ns := [917505]) T hbi hh (by rfl) (by decide) (by decide +kernel) (by decide +kernel) Q2 h2) (by rfl) Q' h) (fun v => SetObj.stable) next (by rfl)
theorem step_16 (T : TS mg0 mb K N c Pl s0 s mg ps facts) (hbi : ∀ x : Str, x ≠ "__name__" → mb x = bootBuiltins x) (hh : A.handled = none)
    (next : ∀ v s', TS mg0 mb K N c Pl s0 s' (fun y => if y = "__name__" then some v else mg y) ps (fun h => facts h ∧ True) → Q .next s') :
    wpAny (model P w) A (exec (stAt 16) (tEnv c Fa)) Q E s :=
  top_str (x := "__name__") T (by rfl) (ok_of (by decide +kernel)) next
end
end Mine
end

section
open PySem PySem.W PyProof.Rows PySem.SeqAt
set_option maxRecDepth 100000
namespace Mine

theorem body_is : P.main.body = [stAt 0, stAt 1, stAt 2, stAt 3, stAt 4, stAt 5, stAt 6, stAt 7, stAt 8, stAt 9, stAt 10, stAt 11, stAt 12, stAt 13, stAt 14, stAt 15, stAt 16, stAt 17, stAt 18, stAt 19, stAt 20, stAt 21, stAt 22] := by rfl

section
variable {w : World} {A : Around} {E : Value → Shared → Prop} {s0 s : Shared} {mg0 mb : Str → Option Value} {N : Nat} {c Pl Fa : Addr}

set_option maxHeartbeats 1000000 in
theorem top_walk {Q : Flow → Shared → Prop} (T : TS mg0 mb 0 N c Pl s0 s mg0 #[] (fun _ => True)) (hbi : ∀ x : Str, x ≠ "__name__" → mb x = bootBuiltins x) (hh : A.handled = none) (hst : s0.heap.Ns cStatics (fun _ => none))
    (next : ∀ s' mg' a, s'.heap.Ns mainGlobals mg' → Base w mg' mb s'.heap → mg' "law" = some (.ref a) → FnObj N a "law" 22 s'.heap → (∀ b o, b ≠ mainGlobals → s0.heap.get? b = some o → s'.heap.get? b = some o) → s'.os = s0.os → s'.gens = #[] →
      (∀ x v, mg' x = some v → x ∈ startupNames ∨ x ∈ P.boundNames) → (∀ x ∈ laidNames, mg' x = mg0 x) → (∃ bm o, mg' "__builtins__" = some (.ref bm) ∧ s'.heap.get? bm = some o ∧ o.cls = .type "module" ∧ o.dict = some builtinsNs ∧ o.data = .plain) → Q .next s') :
    wpAny (model P w) A (execs P.main.body (tEnv c Fa)) Q E s := by
  rw [body_is]
  refine wpAny_execs_cons (step_0 T hbi hh fun v0 s T => ?_)
  refine wpAny_execs_cons (step_1 T hbi hh fun v1 s T => ?_)
  refine wpAny_execs_cons (top_def T defOk_2 (by decide) fun a2 ps s T => ?_)
  refine wpAny_execs_cons (step_3 T hbi hh fun v3 s T => ?_)
  refine wpAny_execs_cons (step_4 T hbi hh fun v4 s T => ?_)
  refine wpAny_execs_cons (top_def T defOk_5 (by decide) fun a5 ps s T => ?_)
  refine wpAny_execs_cons (top_def T defOk_6 (by decide) fun a6 ps s T => ?_)
  refine wpAny_execs_cons (top_def T defOk_7 (by decide) fun a7 ps s T => ?_)
  refine wpAny_execs_cons (step_8 T hbi hh fun v8 s T => ?_)
  refine wpAny_execs_cons (top_def T defOk_9 (by decide) fun a9 ps s T => ?_)
  refine wpAny_execs_cons (step_10 T hbi hh fun v10 s T => ?_)
  refine wpAny_execs_cons (top_def T defOk_11 (by decide) fun a11 ps s T => ?_)
  refine wpAny_execs_cons (step_12 T hbi hh fun v12 s T => ?_)
  refine wpAny_execs_cons (top_def T defOk_13 (by decide) fun a13 ps s T => ?_)
  refine wpAny_execs_cons (step_14 T hbi hh fun v14 s T => ?_)
  refine wpAny_execs_cons (top_def T defOk_15 (by decide) fun a15 ps s T => ?_)
  refine wpAny_execs_cons (step_16 T hbi hh fun v16 s T => ?_)
  refine wpAny_execs_cons (top_def T defOk_17 (by decide) fun a17 ps s T => ?_)
  refine wpAny_execs_cons (top_def T defOk_18 (by decide) fun a18 ps s T => ?_)
  refine wpAny_execs_cons (top_def T defOk_19 (by decide) fun a19 ps s T => ?_)
  refine wpAny_execs_cons (top_def T defOk_20 (by decide) fun a20 ps s T => ?_)
  refine wpAny_execs_cons (top_def T defOk_21 (by decide) fun a21 ps s T => ?_)
  refine wpAny_execs_cons (top_def T defOk_22 (by decide) fun a22 ps s T => ?_)
  refine wpAny_execs_nil ?_
  obtain ⟨⟨⟨⟨⟨⟨⟨⟨⟨⟨⟨⟨⟨⟨⟨⟨⟨⟨⟨⟨⟨⟨⟨t0, f0⟩, f1⟩, f2⟩, f3⟩, f4⟩, f5⟩, f6⟩, f7⟩, f8⟩, f9⟩, f10⟩, f11⟩, f12⟩, f13⟩, f14⟩, f15⟩, f16⟩, f17⟩, f18⟩, f19⟩, f20⟩, f21⟩, f22⟩ := T.holds
  have fn : ∀ {a : Addr} {nm : Str} {i : Nat} {m : Str → Option Value}, FnObj N a nm i s.heap → m nm = some (.ref a) → FnAt s.heap m nm i a := fun ⟨_, c', pm, _, e, r⟩ hm => ⟨_, pm, .ref c', .none, hm, e, rfl, r⟩
  have st : ∀ {v : Value} {nm : Str} {l : List Int} {m : Str → Option Value}, SetObj w N v l s.heap → m nm = some v → SetAt w m s.heap nm l := fun ⟨a, e, _, n, h⟩ hm => ⟨a, n, e ▸ hm, h⟩
  obtain ⟨t1, rfl⟩ := f1
  obtain ⟨bm, ob, q1, q2, q3, q4, q5, q6, q7, q8⟩ := T.main.bmod
  have hnl : s.heap.NoLimit := ⟨_, hst.at' fun o e => T.old _ o (by decide) e, rfl⟩
  refine next s _ a22 T.main.g ?_ (by rfl) f22 T.old T.os T.gens T.named T.laid ⟨bm, ob, q1, q5, q6, q7, q8⟩
  exact {
    g := T.main.g
    b := T.b
    nolimit := hnl
    bi := hbi
    free := fun x hx => T.free x (by
      have : ∀ x ∈ freeNames, x ∈ topFree := by decide
      exact this x hx)
    cm := ⟨_, by rfl⟩
    f2 := ⟨a2, fn f2 (by rfl)⟩
    f5 := ⟨a5, fn f5 (by rfl)⟩
    f6 := ⟨a6, fn f6 (by rfl)⟩
    f7 := ⟨a7, fn f7 (by rfl)⟩
    f9 := ⟨a9, fn f9 (by rfl)⟩
    f11 := ⟨a11, fn f11 (by rfl)⟩
    f13 := ⟨a13, fn f13 (by rfl)⟩
    f15 := ⟨a15, fn f15 (by rfl)⟩
    f17 := ⟨a17, fn f17 (by rfl)⟩
    f18 := ⟨a18, fn f18 (by rfl)⟩
    f19 := ⟨a19, fn f19 (by rfl)⟩
    f20 := ⟨a20, fn f20 (by rfl)⟩
    f21 := ⟨a21, fn f21 (by rfl)⟩
    b1 := st f4 (by rfl)
    c6 := st f8 (by rfl)
    c7 := st f10 (by rfl)
    c8 := st f12 (by rfl)
    c9 := st f14 (by rfl)
  }
end
end Mine
end

section
open PySem PySem.W PyProof.Rows PySem.SeqAt
open PySem.Claim2Try (globalOf_of_ns)
set_option maxRecDepth 100000
namespace Mine

/-- a tree that ends well comes, in the scheduler's own steps, to the place before its end -/
theorem top_runs {w : World} {tree : Sem Fin} {s : Shared} {R : Shared → Prop} (hz : s.asleep)
    (h : wpAny (model P w) callerA tree (fun fin s' => fin = .done (.ret .none) ∧ R s' ∧ s'.gens = #[]) (fun _ _ => False) s) :
    ∃ s₁, (∃ n t, schedN (denote table) P w n (.single s ⟨tree, .builtin "claim.caller" {}, default, []⟩) = .running (.single s₁ t) ∧ through t = true) ∧ R s₁ ∧ s₁.heap.life = s.heap.life ∧ s₁.gens = #[] := by
  have hw := h ⟨.builtin "claim.caller" {}, none, none, [], none⟩ default caller_in
  obtain ⟨n, s', σ, p', leaf, hr, hfo, hl⟩ := wp_reaches (M := model P w) (c := .builtin "claim.caller" {}) hw
  rcases hl with ⟨a, rfl, rfl, hR, hg⟩ | ⟨e, _, hF⟩
  · obtain rfl := Shared.eq_of_forget_eq hfo hg
    have hfin : Sem.wp (model P w) ⟨.builtin "claim.caller" {}, none, none, [], none⟩ tree (Sem.finPost (model P w) ⟨.builtin "claim.caller" {}, none, none, [], none⟩ fun r s' => (fun _ _ => True) r s' ∧ leftWithCleanup s'.gens = false)
        (fun e _ s' => (fun _ _ => True) (Except.error e : Result) s' ∧ leftWithCleanup s'.gens = false) default s :=
      Sem.wp_mono (model P w) _ tree (fun fin p' s' h' => by obtain ⟨rfl, _, hg⟩ := h'; exact ⟨trivial, by rw [hg]; exact leftWithCleanup_false_of_bare (fun g hg => by simp at hg)⟩) (fun _ _ _ h' => h'.elim) _ _ hw
    obtain ⟨n2, r, s2, hn2, _⟩ := (wp_iff_halts tree (fun _ _ => True) default s).mp hfin
    obtain ⟨s'', hn, hf, hc⟩ := runNI_real _ _ _ hn2 (outcomeOf_ends r)
    have hne : ∀ k s₂, runN (model P w).den (model P w).prog (model P w).w k s ⟨tree, .builtin "claim.caller" {}, default, []⟩ ≠ .halted (.unsupported "lifetime:generator-with-cleanup-left-suspended") s₂ := by
      intro k s₂ hk
      have a := runN_mono _ _ _ n2 k s _ _ s'' hn
      have b := runN_mono _ _ _ k n2 s _ _ s₂ hk
      rw [Nat.add_comm, b] at a
      injection a with a1 _
      have := outcomeOf_ends r
      rw [← a1] at this
      cases this
    have e := schedN_eq_runN (model P w).den (model P w).prog (model P w).w s ⟨tree, .builtin "claim.caller" {}, default, []⟩ hz ⟨hc, hne⟩ n
    exact ⟨σ, ⟨n, _, e.trans (congrArg Run.lift hr), rfl⟩, hR, runN_life_running hr, hg⟩
  · exact hF.elim

def Boot0 (s : Shared) : Prop := s.gens = #[] ∧ ∃ mb mg c Pl, BootLeft9 (opening P) s.heap mb mg c Pl

theorem opening_body : (opening P).main.body = [] := by rfl

theorem boot_P (w : World) : (∃ s, AfterImport (opening P) w s) ∧ ∀ s, AfterImport (opening P) w s → Boot0 s :=
  AfterImport.of_wp (wpAny_boot9 (M := model (opening P) w) (A := {}) (E := fun _ _ => False) (opening P) (fun s' => Boot0 s' ∧ s'.gens = #[])
    (fun h tk mb mg c Pl F hB => by
      rw [opening_body]
      exact codeAny_body rfl rfl (wpAny_execs_nil ⟨⟨_, rfl⟩, ⟨rfl, mb, mg, c, Pl, hB⟩, rfl⟩)) (by rfl) _ default boot_in)

theorem fence_P (s : Shared) : fenceModules? P s = some s := fenceModules_id P (by decide +kernel) s

theorem topFree_ok : ∀ x ∈ topFree, x ∉ bootMainNames := by decide

/-- what the top leaves -/
structure Left (w : World) (s₀ s₁ : Shared) (mg mb : Str → Option Value) (a : Addr) : Prop where
  g : s₁.heap.Ns mainGlobals mg
  base : Base w mg mb s₁.heap
  law : mg "law" = some (.ref a)
  fn : ∃ N, FnObj N a "law" 22 s₁.heap
  old : ∀ b o, b ≠ mainGlobals → s₀.heap.get? b = some o → s₁.heap.get? b = some o
  os : s₁.os = s₀.os
  named : ∀ x v, mg x = some v → x ∈ startupNames ∨ x ∈ P.boundNames
  laid : ∀ x ∈ laidNames, globalOf s₁.heap x = globalOf s₀.heap x
  bm : ∃ bm o, mg "__builtins__" = some (.ref bm) ∧ s₁.heap.get? bm = some o ∧ o.cls = .type "module" ∧ o.dict = some builtinsNs ∧ o.data = .plain
  statics : s₁.heap.Ns cStatics (fun _ => none)
  statics0 : s₀.heap.Ns cStatics (fun _ => none)

set_option maxHeartbeats 1000000 in
theorem top_P (w : World) (s₀ : Shared) (hz : s₀.asleep) (hB0 : Boot0 s₀) :
    ∃ s₁, (∃ n t, schedN (denote table) P w n (.single s₀ (topStub P)) = .running (.single s₁ t) ∧ through t = true) ∧ (∃ mg mb a, Left w s₀ s₁ mg mb a) ∧ s₁.heap.life = s₀.heap.life ∧ s₁.gens = #[] := by
  obtain ⟨hg0, mb, mg, c0, Pl0, hB⟩ := hB0
  refine top_runs hz ?_
  refine wpAny_bind (wpAny_moduleCode fun c Pl h1 tk1 hk1 hc hPl hcode => ?_)
  unfold newBodyFrame
  refine wpAny_bind (wpAny_bind (wpAny_nsGet (hB.g.keeps hk1) (wpAny_alloc ?_)))
  refine wpAny_bind (wpAny_run ?_)
  have hbody : behindTheImports P = P.main.body := by rfl
  rw [hbody]
  refine codeAny_body (env := tEnv c _) (by rfl) (by rfl) ?_
  have hglt : mainGlobals < s₀.heap.objs.size := hB.g.lt
  refine calm ?_
  dsimp only
  generalize ({ cls := .type "frame", slots := _ } : Obj) = fo
  have kp : ∀ b o, s₀.heap.get? b = some o → (h1.push fo).get? b = some o := fun b o e => Heap.get?_push_of_some _ (hk1 b o e)
  have hPlt : Pl < h1.objs.size := hcode.lt.2
  obtain ⟨bm, bo, q1, q2, q3, q4, q5, q6⟩ := hB.bmod
  have hbm : bm < s₀.heap.objs.size := Heap.lt_size q5
  have T : TS mg mb 0 (h1.push fo).objs.size c Pl s₀ { heap := h1.push fo, gens := s₀.gens, drawn := s₀.drawn, toks := tk1, os := s₀.os } mg #[] (fun _ => True) := {
    main := ⟨hB.g.keeps kp, hcode.push _, ⟨Nat.lt_of_lt_of_le hglt hc, Nat.lt_of_lt_of_le hglt hPl⟩, bm, bo, q1, q2, q3, Nat.ne_of_lt (Nat.lt_of_lt_of_le hbm hPl), kp _ _ q5, q6⟩
    b := hB.b.keeps kp
    old := fun b o _ e => kp b o e
    holds := trivial
    stable := Stable.const
    big := Nat.le_refl _
    newP := hPl
    lowP := by rw [Heap.size_push]; exact Nat.lt_succ_of_lt hPlt
    lowG := by rw [Heap.size_push]; exact Nat.lt_succ_of_lt (Nat.lt_of_lt_of_le hglt (Nat.le_trans hPl (Nat.le_of_lt hPlt)))
    os := rfl
    gens := hg0
    free := fun x hx => hB.others x (topFree_ok x hx)
    named := fun x v hx => by
      by_cases q : x ∈ bootMainNames
      · exact .inl q
      · rw [hB.others x q] at hx; cases hx
    laid := fun _ _ => rfl
    places := ⟨[], rfl, fun q hq => by cases hq⟩ }
  refine top_walk T hB.builtins (by rfl) hB.statics fun s' mg' a g1 g2 g3 g4 g5 g6 g7 g8 g9 g10 => ?_
  refine wpAny_pure ⟨rfl, ⟨mg', mb, a, g1, g2, g3, ⟨_, g4⟩, g5, g6, g8, fun x hx => ?_, g10, hB.statics.at' fun o e => g5 _ o (by decide) e, hB.statics⟩, g7⟩
  rw [globalOf_of_ns g1, globalOf_of_ns hB.g]
  exact g9 x hx
end Mine
end

section
open PySem PySem.W PyProof.Rows PySem.SeqAt
open PySem.Claim2Try (globalOf_of_ns)
set_option maxRecDepth 100000
namespace Mine

abbrev Rw : OpenRow := PySem.Challenge.rw_pe0031_01.row

theorem items_int : ∀ (ds : List WData), WShape.hasItems [] ds .int = true → ∀ d ∈ ds, ∃ i, d = .int i
  | [], _, d, hd => by cases hd
  | x :: r, h, d, hd => by
    simp only [WShape.hasItems, Bool.and_eq_true] at h
    rcases List.mem_cons.mp hd with rfl | hd
    · have h1 := h.1
      cases d <;> first | exact ⟨_, rfl⟩ | (exfalso; revert h1; simp [WShape.has, WShape.arms])
    · exact items_int r h.2 d hd

theorem args_open {args : List WData} (h : Rw.toRowW.claim.pre args = true) : ∃ ds, args = [.list ds] ∧ (∀ d ∈ ds, ∃ i, d = .int i) ∧ ds.length ≤ 63 := by
  have h : (WShape.hasAll [] args [.list .int] && Rw.toRowW.pre.holds [] { args := args }) = true := h
  obtain ⟨h1, h2⟩ := Bool.and_eq_true_iff.mp h
  match args, h1, h2 with
  | [], h1, _ => simp [WShape.hasAll] at h1
  | a :: b :: r, h1, _ => simp [WShape.hasAll] at h1
  | [a], h1, h2 =>
    have h3 : WShape.has [] a (.list .int) = true := by simpa [WShape.hasAll] using h1
    cases a with
    | list ds =>
      refine ⟨ds, rfl, items_int ds (by simpa [WShape.has, WShape.arms] using h3), ?_⟩
      have h2 : WTm.holds [] (.and (.not (.lt (.lit (.int 63)) (.len (.arg 0)))) (.lit (.bool true))) { args := [.list ds] } = true := h2
      rcases Nat.lt_or_ge 63 ds.length with q | q
      · exfalso
        revert h2
        have e : decide ((63 : Int) < (ds.length : Int)) = true := decide_eq_true (by omega)
        simp [WTm.holds, WTm.value, less?, Num.less?, e]
      · exact q
    | _ => exfalso; revert h3; simp [WShape.has, WShape.arms]

theorem reads_ints {cl : Str → Option Addr} {h : Heap} : ∀ (ds : List WData) (vs : List Value) (as : List Addr), (∀ d ∈ ds, ∃ i, d = .int i) → ReadsAllW [] cl h vs ds as → ∃ xs : List Int, IntsAre vs xs ∧ xs.length = ds.length
  | [], vs, as, _, r => by cases r; exact ⟨[], .nil, rfl⟩
  | d :: ds, vs, as, hd, r => by
    cases r with
    | cons r1 r2 =>
      obtain ⟨i, rfl⟩ := hd d (List.mem_cons_self ..)
      cases r1
      obtain ⟨xs, h1, h2⟩ := reads_ints ds _ _ (fun d h => hd d (List.mem_cons_of_mem _ h)) r2
      exact ⟨_ :: xs, .cons _ _ h1, by simp [h2]⟩

theorem def_law : P.theDef "law" = some (dPar (stAt 22), dBod (stAt 22), dSco (stAt 22)) := by rfl
theorem par_law : (dPar (stAt 22)).defaults = [] ∧ kwWritten? (dPar (stAt 22)).kwonlyargs (dPar (stAt 22)).kw_defaults = some [] := ⟨by rfl, by rfl⟩

theorem pin_law {w : World} {s₀ s₁ : Shared} {mg mb : Str → Option Value} {a : Addr} (L : Left w s₀ s₁ mg mb a) : isTheDefsW P s₁.heap "law" := by
  obtain ⟨N, _, c', pm, _, e, _⟩ := L.fn
  exact ⟨a, _, _, dPar (stAt 22), dBod (stAt 22), dSco (stAt 22), (globalOf_of_ns L.g _).trans L.law, e, rfl, def_law, rfl, rfl, rfl, rfl, rfl, rfl, rfl, rfl, .inl ⟨par_law.1, rfl⟩, [], par_law.2, .inl ⟨rfl, rfl⟩⟩

theorem ran_P {w : World} {s₀ s₁ : Shared} {mg mb : Str → Option Value} {a : Addr} (hrun : ∃ n t, schedN (denote table) P w n (.single s₀ (topStub P)) = .running (.single s₁ t) ∧ through t = true) (hlife : s₁.heap.life = s₀.heap.life) (hg : s₁.gens = #[])
    (L : Left w s₀ s₁ mg mb a) : TopRan P w s₀ s₁ := by
  refine ⟨hrun, hlife, Shared.rest_eq L.os, fun b o e hn => L.old b o (fun q => hn (.inl q)) e, fun key v hv => ?_, fun key => .inl ?_, Pin.keysAreStrs_of_ns L.g, fun x hx => (Pin.builtinOf_of_ns L.base.b x).trans (L.base.bi x hx), ?_, fun g h => ?_, fun x v hx => L.named x v ?_, L.laid⟩
  · rw [Pin.staticOf_of_ns L.statics key] at hv; cases hv
  · rw [Pin.staticOf_of_ns L.statics, Pin.staticOf_of_ns L.statics0]
  · obtain ⟨bm, o, h1, h2, h3, h4, _⟩ := L.bm
    exact ⟨bm, o, (globalOf_of_ns L.g _).trans h1, h2, h3, h4⟩
  · rw [hg] at h; simp at h
  · rwa [globalOf_of_ns L.g] at hx

theorem open_P : Rw.toRowW.claim.HoldsOpenBy (callStub Rw.name) (if Rw.pinned then [Rw.name] else []) Rw.keeps Rw.writes := by
  refine ⟨⟨⟨rfl, rfl, rfl, rfl, rfl, by decide +kernel⟩, by decide +kernel, rfl⟩, ⟨[.list []], by decide +kernel, by decide +kernel⟩, fun w => ⟨(boot_P w).1, fun s hs => ?_⟩⟩
  have hs : AfterImport (opening P) w s := hs
  have hz : s.asleep := hs.life
  obtain ⟨s₁, hrun, ⟨mg, mb, a, L⟩, hlife, hgens⟩ := top_P w s hz ((boot_P w).2 s hs)
  refine ⟨s, fence_P s, ((boot_P w).2 s hs).1, s₁, ran_P hrun hlife hgens L, ?pin, fun x hx => by { have hx : x ∈ ([] : WRecords) := hx; cases hx }, fun x hx => by { have hx : x ∈ ([] : WRecords) := hx; cases hx }, ?call⟩
  case pin =>
    intro n hn
    have hn : n ∈ [("law" : Str)] := hn
    simp only [List.mem_singleton] at hn
    subst hn
    exact pin_law L
  case call =>
    refine ClaimW.callFrom_of_specG (c := Rw.toRowW.claim) (tree := fun vs => do match ← nsGet mainNs Rw.name with
      | some f => do ret (← PySem.call f vs)
      | none => unsupported "claim.caller:no-such-global") (Shared.asleep_of_life hlife hz) hgens fun args hpre hlay ord hord => ?_
    obtain ⟨ds, rfl, hds, hlen⟩ := args_open hpre
    obtain ⟨⟨vs, s₂⟩, hlaid⟩ := Option.isSome_iff_exists.mp (layAllW_isSome (P := w.params) (ord := ord) (R := Rw.toRowW.claim.records) (cl := classAt s₁.heap) (fun c hc => (nomatch hc)) [.list ds] Rw.toRowW.args s₁ (pre_splitW hpre).1)
    have keeps := layAllW_keeps _ _ _ hlaid
    have hal := layAllW_rest _ _ _ hlaid
    obtain ⟨as, hrd, hin, hold⟩ := reads_layAllW hord _ _ _ hlaid hlay s₂.heap (fun _ _ e => e)
    have Ld : Laid Rw.toRowW.claim.records w s₁ s₂ [.list ds] vs as := ⟨⟨ord, hord, hlaid⟩, hrd, hin, hold, keeps, hal.1.trans hgens, hal.2.2.1⟩
    obtain ⟨v, vs', as1, as2, rfl, rfl, r1, r2⟩ := readsAllW_cons_inv hrd
    obtain ⟨rfl, rfl⟩ := readsAllW_nil_inv r2
    obtain ⟨S, items, as', rfl, hl, r3, rfl⟩ := readsW_list_inv r1
    obtain ⟨xs, hi, hxs⟩ := reads_ints ds _ _ hds r3
    obtain ⟨its, rfl⟩ : ∃ its : List Value, items = its.toArray := ⟨items.toList, by simp⟩
    refine ⟨_, s₂, hlaid, wpAny_bind (wpAny_nsGet (L.g.keeps keeps) ?_)⟩
    rw [show mg Rw.name = some (.ref a) from L.law]
    have Fn : FnAt s₂.heap mg "law" 22 a := by
      obtain ⟨N, _, c', pm, _, e, r⟩ := L.fn
      exact ⟨_, pm, .ref c', .none, L.law, keeps _ _ e, rfl, r.keeps keeps⟩
    refine wpAny_bind (law_spec (L.base.keeps keeps) Fn ⟨rfl, by decide, by decide⟩ rfl hl hi (by omega) plain_law fun s₃ k3 os3 br3 => wpAny_pure ⟨_, rfl, ?_⟩)
    have hp : Rw.toRowW.claim.post [.list ds] (.bool true) [.list ds] = true := by
      show (WShape.has [] (.bool true) .bool && WTm.holds [] (.eq .res (.lit (.bool true))) { args := [.list ds], res := some (.bool true), after := [.list ds] }) = true
      have e : same (.bool true) (.bool true) = true := by decide +kernel
      simp [WTm.holds, WTm.value, e, WShape.has, WShape.arms]
    have g : GoodWG Rw.toRowW.claim (classAt s₁.heap) (ExcName.means s₁.heap) [.list ds] s₂ (.ok (.ret (.bool true))) s₃ :=
      ⟨.inl ⟨_, .bool true, [], rfl, fun _ => rfl, .bool true, hp, fun _ => ⟨.nil, fun _ h => nomatch h⟩⟩, .of_keep k3, os3, br3 (by rw [Ld.gens]; exact fun g hg => by simp at hg)⟩
    have z := g.laid (c := Rw.toRowW.claim) rfl rfl (ident_freeW rfl rfl rfl) Ld
    exact ⟨z.1, z.2.1, z.2.2, fun q => nomatch q⟩
end Mine
end

open PySem PySem.W PyProof.Rows
set_option maxRecDepth 100000 in
set_option maxHeartbeats 8000000 in
theorem PySem.Challenge.cw_pe0031_01_holds : PySem.Challenge.rw_pe0031_01.Holds := by
  o_law
  exact ⟨by assumption, ⟨[.list []], by decide +kernel, by decide +kernel⟩, Mine.open_P⟩
