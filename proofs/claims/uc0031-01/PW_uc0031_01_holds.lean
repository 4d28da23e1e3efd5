import PyProof.Rows.All
import PyProof.ForAny
import PyProof.MinMaxWalk
import PyProof.DictTable
import PyProof.EqAt
import PyProof.NeKinds
import PyProof.StrLawsChain
import PyProof.ListRange
import PyProof.WalksPairs
import Open.Boot
import OpenK.KLine
import KE.LcSums
import KE.KNest
import KE.KSliceW
import KE.KRevIter
import KE.KRevSl
import KE.KxSplit
import Lean
import PySem.Challenge.RW_uc0031_01
set_option maxRecDepth 100000
set_option Elab.async false
set_option maxHeartbeats 4000000
namespace Mine
open PySem PySem.W PySem.Calls PyProof.Rows

noncomputable abbrev P31 : Program := PySem.Challenge.pw_uc0031_01
noncomputable abbrev NoE : Value → Shared → Prop := fun _ _ => False
theorem none_ne {α : Type} {x : α} {P : Prop} (h : (none : Option α) = some x) : P := nomatch h
section
variable {α : Type} {M : Model} {A B : Around} {E E' : Value → Shared → Prop} {s : Shared}
/-- the post of a walk, under a name of its own (a small term is carried instead of a large one) -/
theorem wp_hide {c : Sem α} {Q : α → Shared → Prop} (h : ∀ R : α → Shared → Prop, (∀ v s, Q v s → R v s) → wpAny M A c R E s) : wpAny M A c Q E s := h Q fun _ _ x => x
theorem turn_hide {β : Type} {c : Sem β} {b : Sem α} {Q : α → Shared → Prop} (h : ∀ R : α → Shared → Prop, (∀ v s, Q v s → R v s) → wpAny M A c (fun _ s => wpAny M B b R E' s) E s) :
    wpAny M A c (fun _ s => wpAny M B b Q E' s) E s := h Q fun _ _ x => x
theorem while_hide {c : Sem Bool} {b : Sem α} {Q : α → Shared → Prop} {D : Shared → Prop} (h : ∀ (R : α → Shared → Prop) (D' : Shared → Prop), (∀ v s, Q v s → R v s) → (∀ s, D s → D' s) → wpAny M A c (fun x s => if x then wpAny M B b R E' s else D' s) E s) :
    wpAny M A c (fun x s => if x then wpAny M B b Q E' s else D s) E s := h Q D (fun _ _ x => x) fun _ x => x
theorem hide_eq {α : Type} (a : α) : ∃ b, a = b := ⟨a, rfl⟩
theorem goal_hide {P : Prop} (h : ∀ G : Prop, (P → G) → G) : P := h P id
end

/-- the defs of the text, by their place among its statements -/
noncomputable def fnPos : List Nat := [2, 5, 6, 7, 8, 9, 10, 13, 15, 68, 69, 70, 72, 73, 74, 75, 76, 77, 78]
noncomputable def stAt (k : Nat) : Stmt := (P31.main.body[k]?).getD (.Pass default)
noncomputable def fName : Stmt → Str
  | .FunctionDef n .. => n
  | _ => ""
noncomputable def fParams : Stmt → Arguments
  | .FunctionDef _ a .. => a
  | _ => default
noncomputable def fBody : Stmt → List Stmt
  | .FunctionDef _ _ b .. => b
  | _ => []
noncomputable def fScope : Stmt → Scope
  | .FunctionDef _ _ _ _ _ _ sc .. => sc
  | _ => default
noncomputable def fPosn : Stmt → Pos
  | .FunctionDef _ _ _ _ _ _ _ _ _ p => p
  | _ => default
noncomputable def fAt (i : Nat) : Stmt := stAt (fnPos.getD i 0)

/-- where the top has put its things -/
structure Tops where
  f : Nat → Addr
  cd : Nat → Addr
  pm : Nat → Value
  b1 : Addr
  c9 : Addr
  tok : Addr
  p1 : Addr
  p2 : Addr
  tk : Nat → Tok
  mg : Str → Option Value
  mb : Str → Option Value
  tokF : Str → Option Value

noncomputable def fdOf (T : Tops) (i : Nat) : FuncData := docDef (fName (fAt i)) (fParams (fAt i)) (fBody (fAt i)) (fScope (fAt i)) (T.pm i) (.ref (T.cd i)) .none
noncomputable def fObj (T : Tops) (i : Nat) : Obj := { cls := .type "function", data := .func (fdOf T i) }

noncomputable def globTab (T : Tops) : List (Str × Value) :=
  [("_ellipsis_match", .ref (T.f 0)), ("_div2n1n", .ref (T.f 1)), ("_div3n2n", .ref (T.f 2)), ("_int2digits", .ref (T.f 3)), ("_digits2int", .ref (T.f 4)), ("_divmod_pos", .ref (T.f 5)),
   ("int_divmod", .ref (T.f 6)), ("in_table_b1", .ref (T.f 7)), ("in_table_c9", .ref (T.f 8)), ("ISTERMINAL", .ref (T.f 9)), ("ISNONTERMINAL", .ref (T.f 10)), ("ISEOF", .ref (T.f 11)),
   ("_law_unseen", .ref (T.f 12)), ("_law_drawn", .ref (T.f 13)), ("_law_read", .ref (T.f 14)), ("_law_divided", .ref (T.f 15)), ("_law_round", .ref (T.f 16)), ("_law_begins", .ref (T.f 17)), ("law", .ref (T.f 18)),
   ("b1_set", .ref T.b1), ("c9_set", .ref T.c9), ("EXACT_TOKEN_TYPES", .ref T.tok), ("ELLIPSIS_MARKER", .str "..." (T.tk 0)), ("_DIV_LIMIT", .int 4000 (T.tk 1)), ("NT_OFFSET", .int 256 (T.tk 2)), ("ENDMARKER", .int 0 (T.tk 3))]
noncomputable def bltTab : List (Str × Value) :=
  [("len", .builtin "len"), ("divmod", .builtin "divmod"), ("reversed", .type "reversed"), ("ord", .builtin "ord"), ("chr", .builtin "chr"), ("sum", .builtin "sum"), ("range", .type "range"), ("max", .builtin "max"), ("min", .builtin "min")]

/-- a code object of that name -/
noncomputable def CodeOk (h : Heap) (c : Addr) (q : Str) : Prop := ∃ o vs t, h.get? c = some o ∧ o.data = .fields vs ∧ vs[1]? = some (.str q t)
/-- the table of a def's own code: empty, or one code object in it -/
noncomputable def Tab (h : Heap) (c P : Addr) (l k : Nat) (q : Str) : Prop :=
  CodeHd h c P ∧ ∃ ps : Array Value, h.get? P = some (tabObj ps) ∧ (ps = #[] ∨ ∃ c', ps = #[rawInt l, rawInt k, .ref c'] ∧ CodeOk h c' q)

noncomputable def b1List : List Int := [173, 847, 6150, 6155, 6156, 6157, 8203, 8204, 8205, 8288, 65279, 65024, 65025, 65026, 65027, 65028, 65029, 65030, 65031, 65032, 65033, 65034, 65035, 65036, 65037, 65038, 65039]
noncomputable def b1S (k : Int) : Bool := b1List.contains k
noncomputable def c9S (k : Int) : Bool := decide (k = 917505) || (decide (917536 ≤ k) && decide (k < 917632))
noncomputable def tokTab : List (Str × Int) := ([("!", 54), ("!=", 28), ("%", 24), ("%=", 40), ("&", 19), ("&=", 41), ("(", 7), (")", 8), ("*", 16), ("**", 35), ("**=", 46), ("*=", 38), ("+", 14), ("+=", 36), (",", 12), ("-", 15), ("-=", 37), ("->", 51), (".", 23), ("...", 52), ("/", 17), ("//", 47), ("//=", 48), ("/=", 39), (":", 11), (":=", 53), (";", 13), ("<", 20), ("<<", 33), ("<<=", 44), ("<=", 29), ("=", 22), ("==", 27), (">", 21), (">=", 30), (">>", 34), (">>=", 45), ("@", 49), ("@=", 50), ("[", 9), ("]", 10), ("^", 32), ("^=", 43), ("{", 25), ("|", 18), ("|=", 42), ("}", 26), ("~", 31)] : List (String × Int)).map fun p => (Str.ofString p.1, p.2)

structure TopOk (T : Tops) : Prop where
  glob : ∀ x v, (globTab T).lookup x = some v → T.mg x = some v
  blt : ∀ x v, bltTab.lookup x = some v → T.mg x = none ∧ T.mb x = some v
  tok : ∀ x k, tokTab.lookup x = some k → ∃ t, T.tokF x = some (.int k t)
  tokN : ∀ x, tokTab.lookup x = none → T.tokF x = none
  bm : ∃ b, T.mg "__builtins__" = some (.ref b)
  pp : T.p1 ≠ T.p2
  tn : (T.tok == sysModules) = false

structure G (w : World) (T : Tops) (h : Heap) : Prop where
  ok : TopOk T
  ns : h.Ns mainGlobals T.mg
  nb : h.Ns builtinsNs T.mb
  nolim : h.NoLimit
  bmain : BMain h T.mg
  fn : ∀ i, i < 19 → h.get? (T.f i) = some (fObj T i) ∧ CodeOk h (T.cd i) (fName (fAt i))
  b1 : ∃ o n, h.get? T.b1 = some o ∧ o.cls = .type "set" ∧ o.IntSetOf b1S n ∧ n < 4096
  c9 : ∃ o n, h.get? T.c9 = some o ∧ o.cls = .type "set" ∧ o.IntSetOf c9S n ∧ n < 4096
  tok : h.MapOf (strKind P31 w) T.tok T.tokF
  t1 : Tab h (T.cd 3) T.p1 62 4 "_int2digits.<locals>.inner"
  t2 : Tab h (T.cd 4) T.p2 77 4 "_digits2int.<locals>.inner"

/-- what stands, stands; the two tables may grow -/
noncomputable def Grow (T : Tops) (h h' : Heap) : Prop := ∀ b o, h.get? b = some o → h'.get? b = some o ∨
  ((b = T.p1 ∨ b = T.p2) ∧ ∃ vs more : Array Value, o = tabObj vs ∧ h'.get? b = some (tabObj (vs ++ more)))

section
variable {w : World} {T : Tops} {h h' h'' : Heap}
theorem Grow.refl : Grow T h h := fun _ _ e => .inl e
theorem Grow.of_keep (k : ∀ b o, h.get? b = some o → h'.get? b = some o) : Grow T h h' := fun b o e => .inl (k b o e)
theorem Grow.trans (a : Grow T h h') (b : Grow T h' h'') : Grow T h h'' := fun x o e => by
  rcases a x o e with e1 | ⟨hp, vs, more, rfl, e1⟩
  · exact b x o e1
  · rcases b x _ e1 with e2 | ⟨_, vs', more', q, e2⟩
    · exact .inr ⟨hp, vs, more, rfl, e2⟩
    · obtain rfl : vs ++ more = vs' := by
        have := congrArg Obj.data q
        simpa using this
      exact .inr ⟨hp, vs, more ++ more', rfl, by rw [e2, Array.append_assoc]⟩
theorem Grow.keep (a : Grow T h h') {b : Addr} {o : Obj} (e : h.get? b = some o) (hc : o.cls ≠ .none) : h'.get? b = some o := by
  rcases a b o e with e1 | ⟨_, vs, more, rfl, _⟩
  · exact e1
  · exact absurd rfl hc
theorem Grow.keepD (a : Grow T h h') {b : Addr} {o : Obj} (e : h.get? b = some o) (hc : ∀ vs, o.data ≠ .fields vs) : h'.get? b = some o := by
  rcases a b o e with e1 | ⟨_, vs, more, rfl, _⟩
  · exact e1
  · exact absurd rfl (hc vs)
theorem Grow.there (a : Grow T h h') {b : Addr} {o : Obj} (e : h.get? b = some o) : ∃ o', h'.get? b = some o' := by
  rcases a b o e with e1 | ⟨_, vs, more, rfl, e1⟩ <;> exact ⟨_, e1⟩
theorem Grow.ns (a : Grow T h h') {x : Addr} {m : Str → Option Value} (e : h.Ns x m) : h'.Ns x m :=
  let ⟨o, es, ep, ho, hd, r⟩ := e; ⟨o, es, ep, a.keepD ho (fun vs q => by rw [hd] at q; cases q), hd, r⟩
theorem Grow.cell (a : Grow T h h') {c : Addr} {v : Option Value} (e : h.IsCell c v) : h'.IsCell c v :=
  let ⟨o, ho, hd⟩ := e; ⟨o, a.keepD ho (fun vs q => by rw [hd] at q; cases q), hd⟩
theorem Grow.list (a : Grow T h h') {c : Addr} {v : Array Value} (e : h.IsList c v) : h'.IsList c v :=
  let ⟨o, ho, hc, r⟩ := e; ⟨o, a.keep ho (by rw [hc]; nofun), hc, r⟩
theorem Grow.code (a : Grow T h h') {c : Addr} {q : Str} (e : CodeOk h c q) : CodeOk h' c q := by
  obtain ⟨o, vs, t, ho, hd, hv⟩ := e
  rcases a c o ho with e1 | ⟨_, us, more, rfl, e1⟩
  · exact ⟨o, vs, t, e1, hd, hv⟩
  · obtain rfl : us = vs := by injection hd
    refine ⟨_, _, t, e1, rfl, ?_⟩
    have hlt : 1 < us.size := by
      rcases Nat.lt_or_ge 1 us.size with q | q
      · exact q
      · rw [Array.getElem?_eq_none q] at hv; cases hv
    rw [Array.getElem?_append_left hlt, hv]
theorem CodeOk.rec' {c : Addr} {q : Str} (e : CodeOk h c q) : h.CodeRec (.ref c) q := let ⟨o, vs, t, ho, hd, r⟩ := e; ⟨c, o, vs, t, rfl, ho, hd, r⟩
theorem CodeOk.keeps {c : Addr} {q : Str} (e : CodeOk h c q) (k : ∀ b o, h.get? b = some o → h'.get? b = some o) : CodeOk h' c q := let ⟨o, vs, t, ho, r⟩ := e; ⟨o, vs, t, k _ _ ho, r⟩
theorem Tab.keeps {c P : Addr} {l k : Nat} {q : Str} (x : Tab h c P l k q) (kp : ∀ b o, h.get? b = some o → h'.get? b = some o) : Tab h' c P l k q :=
  let ⟨a, ps, e, r⟩ := x; ⟨a.keeps kp, ps, kp _ _ e, r.imp id fun ⟨c', q1, q2⟩ => ⟨c', q1, q2.keeps kp⟩⟩
theorem CodeHd.grow {c P : Addr} (x : CodeHd h c P) (a : Grow T h h') : CodeHd h' c P :=
  let ⟨o, vs, file, tf, flags, tg, inF, text, tt, e, hc, r⟩ := x; ⟨o, vs, file, tf, flags, tg, inF, text, tt, a.keep e (by rw [hc]; nofun), hc, r⟩
theorem G.grow (g : G w T h) (a : Grow T h h') (t1 : Tab h' (T.cd 3) T.p1 62 4 "_int2digits.<locals>.inner") (t2 : Tab h' (T.cd 4) T.p2 77 4 "_digits2int.<locals>.inner") : G w T h' :=
  ⟨g.ok, a.ns g.ns, a.ns g.nb, (let ⟨mc, e, r⟩ := g.nolim; ⟨mc, a.ns e, r⟩), (let ⟨bm, ob, e1, e2, e3, e4, r⟩ := g.bmain; ⟨bm, ob, e1, e2, a.keep e3 (by rw [e4]; nofun), e4, r⟩),
   fun i hi => ⟨a.keep (g.fn i hi).1 nofun, a.code (g.fn i hi).2⟩,
   (let ⟨o, n, e, hc, r⟩ := g.b1; ⟨o, n, a.keep e (by rw [hc]; nofun), hc, r⟩), (let ⟨o, n, e, hc, r⟩ := g.c9; ⟨o, n, a.keep e (by rw [hc]; nofun), hc, r⟩),
   (let ⟨o, es, n, e, hc, r⟩ := g.tok; ⟨o, es, n, a.keep e (by rw [hc.1]; nofun), hc, r⟩), t1, t2⟩
theorem G.keeps (g : G w T h) (k : ∀ b o, h.get? b = some o → h'.get? b = some o) : G w T h' := g.grow (.of_keep k) (g.t1.keeps k) (g.t2.keeps k)
end

structure Later (w : World) (T : Tops) (s s' : Shared) : Prop where
  gr : Grow T s.heap s'.heap
  g : G w T s'.heap
  os : s'.os = s.os
  gens : s'.gens = s.gens

section
variable {w : World} {T : Tops} {s s' s'' : Shared}
theorem Later.trans (a : Later w T s s') (b : Later w T s' s'') : Later w T s s'' := ⟨a.gr.trans b.gr, b.g, b.os.trans a.os, b.gens.trans a.gens⟩
theorem Later.refl (g : G w T s.heap) : Later w T s s := ⟨.refl, g, rfl, rfl⟩
theorem Later.of_keep (g : G w T s.heap) {h' : Heap} {t : Tok} (k : ∀ b o, s.heap.get? b = some o → h'.get? b = some o) : Later w T s { s with heap := h', toks := t } := ⟨.of_keep k, g.keeps k, rfl, rfl⟩
theorem Later.tok (g : G w T s.heap) {t : Tok} : Later w T s { s with toks := t } := ⟨.refl, g, rfl, rfl⟩
end

noncomputable def upd (m : Str → Option Value) (x : Str) (v : Value) : Str → Option Value := fun y => if y = x then some v else m y

noncomputable def NamedData (o : Obj) : Prop := ∃ vs q t, o.data = .fields vs ∧ vs[1]? = some (.str q t)
noncomputable def OkMu (o : Obj) : Prop := o.cls ≠ .none ∧ o.cls ≠ .type "code" ∧ ¬ NamedData o
theorem notNamed_seq {c : Value} {dd : Option Addr} {items : Array Value} {n : Nat} {sl : Array (Option Value)} : ¬ NamedData ⟨c, dd, .seq items n, sl⟩ := fun ⟨_, _, _, e, _⟩ => nomatch e
theorem Tab.keepsF {h h' : Heap} {c P : Addr} {l k : Nat} {q : Str} (x : Tab h c P l k q) (kp : ∀ b o, h.get? b = some o → (o.cls = .none ∨ o.cls = .type "code" ∨ NamedData o) → (∃ vs, o.data = .fields vs) → h'.get? b = some o) : Tab h' c P l k q :=
  let ⟨⟨o, vs, file, tf, flags, tg, inF, text, tt, e, hc, hd, r⟩, ps, e2, r2⟩ := x
  ⟨⟨o, vs, file, tf, flags, tg, inF, text, tt, kp _ _ e (.inr (.inl hc)) ⟨_, hd⟩, hc, hd, r⟩, ps, kp _ _ e2 (.inl rfl) ⟨_, rfl⟩, r2.imp id fun ⟨c', q1, o', vs', t, e3, hd3, r3⟩ => ⟨c', q1, o', vs', t, kp _ _ e3 (.inr (.inr ⟨_, _, _, hd3, r3⟩)) ⟨_, hd3⟩, hd3, r3⟩⟩

/-- a frame at work: its names; its own objects that still turn; its own objects that stay -/
structure St (w : World) (T : Tops) (s₀ : Shared) (env : Env) (m : Str → Option Value) (mus news : List (Addr × Obj)) (s : Shared) : Prop where
  g₀ : G w T s₀.heap
  g : G w T s.heap
  gr : Grow T s₀.heap s.heap
  os : s.os = s₀.os
  gens : s.gens = s₀.gens
  low : s₀.heap.objs.size ≤ env.locals
  ns : ∃ ml, s.heap.Ns env.locals ml ∧ ∀ x, env.kindOf x = some .local → ml x = m x
  cel : ∀ x c, env.cells.lookup x = some c → s.heap.IsCell c (m x) ∧ c ≠ env.locals
  capart : ∀ x y c, env.cells.lookup x = some c → env.cells.lookup y = some c → x = y
  mu : ∀ p ∈ mus, s.heap.get? p.1 = some p.2 ∧ OkMu p.2 ∧ p.1 ≠ env.locals ∧ s₀.heap.get? p.1 = none ∧ (∀ x, env.cells.lookup x ≠ some p.1)
  md : mus.Pairwise fun p q => p.1 ≠ q.1
  nw : ∀ p ∈ news, s.heap.get? p.1 = some p.2 ∧ p.2.cls ≠ .none ∧ p.1 ≠ env.locals ∧ s₀.heap.get? p.1 = none ∧ (∀ x, env.cells.lookup x ≠ some p.1) ∧ ∀ q ∈ mus, p.1 ≠ q.1

section
variable {w : World} {T : Tops} {s₀ s s' : Shared} {env : Env} {m : Str → Option Value} {mus news : List (Addr × Obj)}
theorem St.later (Z : St w T s₀ env m mus news s) (l : Later w T s s') : St w T s₀ env m mus news s' :=
  ⟨Z.g₀, l.g, Z.gr.trans l.gr, l.os.trans Z.os, l.gens.trans Z.gens, Z.low, (let ⟨ml, a, b⟩ := Z.ns; ⟨ml, l.gr.ns a, b⟩), fun x c e => ⟨l.gr.cell (Z.cel x c e).1, (Z.cel x c e).2⟩, Z.capart,
   fun p hp => let ⟨a, b, r⟩ := Z.mu p hp; ⟨l.gr.keep a b.1, b, r⟩, Z.md, fun p hp => let ⟨a, b, r⟩ := Z.nw p hp; ⟨l.gr.keep a b, b, r⟩⟩
theorem St.tok (Z : St w T s₀ env m mus news s) {t : Tok} : St w T s₀ env m mus news { s with toks := t } := Z.later (.tok Z.g)
theorem St.done (Z : St w T s₀ env m mus news s) : Later w T s₀ s := ⟨Z.gr, Z.g, Z.os, Z.gens⟩
theorem St.get (Z : St w T s₀ env m mus news s) {a : Addr} {o : Obj} (hm : (a, o) ∈ news) : s.heap.get? a = some o := (Z.nw _ hm).1
theorem St.getM (Z : St w T s₀ env m mus news s) {a : Addr} {o : Obj} (hm : (a, o) ∈ mus) : s.heap.get? a = some o := (Z.mu _ hm).1
theorem St.sub (Z : St w T s₀ env m mus news s) {news' : List (Addr × Obj)} (hs : ∀ p ∈ news', p ∈ news) : St w T s₀ env m mus news' s :=
  ⟨Z.g₀, Z.g, Z.gr, Z.os, Z.gens, Z.low, Z.ns, Z.cel, Z.capart, Z.mu, Z.md, fun p hp => Z.nw p (hs p hp)⟩
theorem St.map (Z : St w T s₀ env m mus news s) {m' : Str → Option Value} (hs : ∀ x, m x = m' x) : St w T s₀ env m' mus news s := (funext hs : m = m') ▸ Z

theorem St.fresh (Z : St w T s₀ env m mus news s) {a : Addr} (h : s.heap.get? a = none) : a ≠ env.locals ∧ s₀.heap.get? a = none ∧ (∀ x, env.cells.lookup x ≠ some a) ∧ (∀ p ∈ mus, a ≠ p.1) ∧ ∀ p ∈ news, a ≠ p.1 := by
  refine ⟨?_, ?_, ?_, ?_, ?_⟩
  · rintro rfl
    obtain ⟨ml, ⟨o, es, ep, ho, _⟩, _⟩ := Z.ns
    rw [ho] at h; cases h
  · cases e : s₀.heap.get? a with
    | none => rfl
    | some o =>
      obtain ⟨o', e'⟩ := Z.gr.there e
      rw [e'] at h; cases h
  · intro x e
    obtain ⟨⟨o, ho, _⟩, _⟩ := Z.cel x _ e
    rw [ho] at h; cases h
  · rintro p hp rfl
    rw [(Z.mu p hp).1] at h; cases h
  · rintro p hp rfl
    rw [(Z.nw p hp).1] at h; cases h

/-- what a callee or an allocation has made joins the frame's own -/
theorem St.join (Z : St w T s₀ env m mus news s) (l : Later w T s s') {tl : List (Addr × Obj)}
    (hn : ∀ p ∈ tl, s'.heap.get? p.1 = some p.2 ∧ p.2.cls ≠ .none ∧ s.heap.get? p.1 = none) : St w T s₀ env m mus (tl ++ news) s' :=
  have Y := Z.later l
  ⟨Y.g₀, Y.g, Y.gr, Y.os, Y.gens, Y.low, Y.ns, Y.cel, Y.capart, Y.mu, Y.md, fun p hp => by
    rcases List.mem_append.mp hp with hp | hp
    · obtain ⟨a, b, c⟩ := hn p hp
      obtain ⟨f1, f2, f3, f4, _⟩ := Z.fresh c
      exact ⟨a, b, f1, f2, f3, f4⟩
    · exact Y.nw p hp⟩
theorem St.join1 (Z : St w T s₀ env m mus news s) (l : Later w T s s') {a : Addr} {o : Obj}
    (hn : s'.heap.get? a = some o ∧ o.cls ≠ .none ∧ s.heap.get? a = none) : St w T s₀ env m mus ((a, o) :: news) s' :=
  Z.join l (tl := [(a, o)]) fun p hp => by obtain rfl := List.mem_singleton.mp hp; exact hn
theorem push_keep (s : Shared) (o : Obj) : ∀ b o', s.heap.get? b = some o' → (s.heap.push o).get? b = some o' := fun _ _ e => Heap.get?_push_of_some _ e
theorem St.push (Z : St w T s₀ env m mus news s) (o : Obj) (hf : o.isFreed = false := by rfl) (hc : o.cls ≠ .none := by nofun) {t : Tok} :
    St w T s₀ env m mus ((s.heap.objs.size, o) :: news) { s with heap := s.heap.push o, toks := t } :=
  Z.join1 (.of_keep Z.g (push_keep s o)) ⟨Heap.get?_push_size _ hf, hc, Heap.get?_none_of_le (Nat.le_refl _)⟩
theorem St.joinM (Z : St w T s₀ env m mus news s) (l : Later w T s s') {a : Addr} {o : Obj}
    (hn : s'.heap.get? a = some o ∧ OkMu o ∧ s.heap.get? a = none) : St w T s₀ env m ((a, o) :: mus) news s' :=
  have Y := Z.later l
  have ⟨f1, f2, f3, f4, f5⟩ := Z.fresh hn.2.2
  ⟨Y.g₀, Y.g, Y.gr, Y.os, Y.gens, Y.low, Y.ns, Y.cel, Y.capart, fun p hp => by
    rcases List.mem_cons.mp hp with rfl | hp
    · exact ⟨hn.1, hn.2.1, f1, f2, f3⟩
    · exact Y.mu p hp, List.pairwise_cons.mpr ⟨fun p hp => f4 p hp, Y.md⟩, fun p hp => by
      obtain ⟨a1, a2, a3, a4, a5, a6⟩ := Y.nw p hp
      refine ⟨a1, a2, a3, a4, a5, fun q hq => ?_⟩
      rcases List.mem_cons.mp hq with rfl | hq
      · exact fun e => f5 p hp e.symm
      · exact a6 q hq⟩
theorem St.pushM (Z : St w T s₀ env m mus news s) (o : Obj) (hc : OkMu o := by exact ⟨nofun, nofun, notNamed_seq⟩) (hf : o.isFreed = false := by rfl) {t : Tok} :
    St w T s₀ env m ((s.heap.objs.size, o) :: mus) news { s with heap := s.heap.push o, toks := t } :=
  Z.joinM (.of_keep Z.g (push_keep s o)) ⟨Heap.get?_push_size _ hf, hc, Heap.get?_none_of_le (Nat.le_refl _)⟩
/-- an object that turned stays from here on -/
theorem St.freeze {a : Addr} {o : Obj} (Z : St w T s₀ env m ((a, o) :: mus) news s) : St w T s₀ env m mus ((a, o) :: news) s :=
  ⟨Z.g₀, Z.g, Z.gr, Z.os, Z.gens, Z.low, Z.ns, Z.cel, Z.capart, fun p hp => Z.mu p (.tail _ hp), (List.pairwise_cons.mp Z.md).2, fun p hp => by
    rcases List.mem_cons.mp hp with rfl | hp
    · obtain ⟨a1, a2, a3, a4, a5⟩ := Z.mu _ (.head _)
      exact ⟨a1, a2.1, a3, a4, a5, (List.pairwise_cons.mp Z.md).1⟩
    · obtain ⟨a1, a2, a3, a4, a5, a6⟩ := Z.nw p hp
      exact ⟨a1, a2, a3, a4, a5, fun q hq => a6 q (.tail _ hq)⟩⟩
theorem St.dropM {p : Addr × Obj} (Z : St w T s₀ env m (p :: mus) news s) : St w T s₀ env m mus news s := Z.freeze.sub fun _ h => .tail _ h
theorem St.swapM {p q : Addr × Obj} (Z : St w T s₀ env m (p :: q :: mus) news s) : St w T s₀ env m (q :: p :: mus) news s :=
  have ⟨h1, h2⟩ := List.pairwise_cons.mp Z.md
  have ⟨h3, h4⟩ := List.pairwise_cons.mp h2
  have perm : ∀ r, r ∈ q :: p :: mus → r ∈ p :: q :: mus := fun r hr => by
    rcases List.mem_cons.mp hr with rfl | hr
    · exact .tail _ (.head _)
    · rcases List.mem_cons.mp hr with rfl | hr
      · exact .head _
      · exact .tail _ (.tail _ hr)
  ⟨Z.g₀, Z.g, Z.gr, Z.os, Z.gens, Z.low, Z.ns, Z.cel, Z.capart, fun r hr => Z.mu r (perm r hr),
   List.pairwise_cons.mpr ⟨fun r hr => by
      rcases List.mem_cons.mp hr with rfl | hr
      · exact fun e => h1 q (.head _) e.symm
      · exact h3 r hr, List.pairwise_cons.mpr ⟨fun r hr => h1 r (.tail _ hr), h4⟩⟩,
   fun r hr => let ⟨a1, a2, a3, a4, a5, a6⟩ := Z.nw r hr; ⟨a1, a2, a3, a4, a5, fun x hx => a6 x (perm x hx)⟩⟩

/-- one address that is none of the top's, nor a code table, is written -/
theorem St.write (Z : St w T s₀ env m mus news s) {a : Addr} {o : Obj} {h' : Heap} (ho : s.heap.get? a = some o) (hlo : s₀.heap.get? a = none)
    (hcls : OkMu o ∨ ∀ vs, o.data ≠ .fields vs) (kp : ∀ b o, b ≠ a → s.heap.get? b = some o → h'.get? b = some o) : G w T h' ∧ Grow T s₀.heap h' ∧ ∀ b o, b ≠ a → s.heap.get? b = some o → h'.get? b = some o := by
  have ne : ∀ b o, s₀.heap.get? b = some o → b ≠ a := fun b o e q => by rw [q, hlo] at e; cases e
  have gr : Grow T s₀.heap h' := fun b o e => by
    rcases Z.gr b o e with q | ⟨x, vs, more, q1, q2⟩
    · exact .inl (kp _ _ (ne b o e) q)
    · exact .inr ⟨x, vs, more, q1, kp _ _ (ne b o e) q2⟩
  have kf : ∀ b o', s.heap.get? b = some o' → (o'.cls = .none ∨ o'.cls = .type "code" ∨ NamedData o') → (∃ vs, o'.data = .fields vs) → h'.get? b = some o' := fun b o' e hc hd => kp b o' (fun q => by
    rw [q, ho] at e
    cases e
    rcases hcls with hcls | hcls
    · exact hc.elim hcls.1 fun hc => hc.elim hcls.2.1 hcls.2.2
    · obtain ⟨vs, hd⟩ := hd; exact hcls vs hd) e
  exact ⟨Z.g₀.grow gr (Z.g.t1.keepsF kf) (Z.g.t2.keepsF kf), gr, kp⟩

theorem SameBut.kp {a : Addr} {h h' : Heap} (hs : Heap.SameBut a h h') : ∀ b o, b ≠ a → h.get? b = some o → h'.get? b = some o := fun b _ hb e => (hs.2 b hb).trans e
/-- an object of the frame's own turns -/
theorem St.turn {a : Addr} {o o' : Obj} (Z : St w T s₀ env m ((a, o) :: mus) news s) {h' : Heap} (hs : ∀ b o, b ≠ a → s.heap.get? b = some o → h'.get? b = some o) (ho' : h'.get? a = some o') (hc : OkMu o') {t : Tok} :
    St w T s₀ env m ((a, o') :: mus) news { s with heap := h', toks := t } := by
  obtain ⟨e1, e2, e3, e4, e5⟩ := Z.mu _ (.head _)
  obtain ⟨g, gr, kp⟩ := Z.write e1 e4 (.inl e2) hs
  have ⟨d1, d2⟩ := List.pairwise_cons.mp Z.md
  refine ⟨Z.g₀, g, gr, Z.os, Z.gens, Z.low, ?_, fun x c e => ⟨?_, (Z.cel x c e).2⟩, Z.capart, fun p hp => ?_, List.pairwise_cons.mpr ⟨d1, d2⟩, fun p hp => ?_⟩
  · obtain ⟨ml, ⟨oL, es, ep, hL, r⟩, b⟩ := Z.ns
    exact ⟨ml, ⟨oL, es, ep, kp _ _ (Ne.symm e3) hL, r⟩, b⟩
  · obtain ⟨⟨oc, hoc, hd⟩, _⟩ := Z.cel x c e
    exact ⟨oc, kp _ _ (fun q => e5 x (by rw [e, q])) hoc, hd⟩
  · rcases List.mem_cons.mp hp with rfl | hp
    · exact ⟨ho', hc, e3, e4, e5⟩
    · obtain ⟨a1, r⟩ := Z.mu p (.tail _ hp)
      exact ⟨kp _ _ (Ne.symm (d1 p hp)) a1, r⟩
  · obtain ⟨a1, a2, a3, a4, a5, a6⟩ := Z.nw p hp
    refine ⟨kp _ _ (a6 _ (.head _)) a1, a2, a3, a4, a5, fun q hq => ?_⟩
    rcases List.mem_cons.mp hq with rfl | hq
    · exact a6 (a, o) (.head _)
    · exact a6 q (.tail _ hq)
end

noncomputable def isVar (env : Env) (x : Str) : Bool := match env.kindOf x with
  | some .local => true
  | some .cell | some .free => (env.cells.lookup x).isSome
  | _ => false

section
variable {w : World} {T : Tops} {s₀ s : Shared} {env : Env} {m : Str → Option Value} {mus news : List (Addr × Obj)} {A : Around} {x : Str} {pos : Pos} {v : Value}

theorem ldn (Z : St w T s₀ env m mus news s) {Q : Value → Shared → Prop} (hv : m x = some v) (h : Q v s) (hk : env.scope.kind = .function := by rfl) (hl : isVar env x = true := by rfl)
    (hn : (x == ("__classdict__" : Str)) = false := by decide) : wpAny (model P31 w) A (loadName env x) Q NoE s := by
  obtain ⟨ml, hns, he⟩ := Z.ns
  unfold isVar at hl
  split at hl
  · rename_i hkd; exact @wpAny_loadName_local _ _ _ _ _ _ _ _ _ hk hkd hns ((he x hkd).trans hv) h
  · rename_i hkd
    obtain ⟨c, hc⟩ := Option.isSome_iff_exists.mp hl
    exact @wpAny_loadName_cell _ _ _ _ _ _ _ _ _ hk hkd hc (hv ▸ (Z.cel x c hc).1) h
  · rename_i hkd
    obtain ⟨c, hc⟩ := Option.isSome_iff_exists.mp hl
    exact @wpAny_loadName_free _ _ _ _ _ _ _ _ _ hk hkd hc (hv ▸ (Z.cel x c hc).1) h hn
  · cases hl
theorem ld (Z : St w T s₀ env m mus news s) {Q : Value → Shared → Prop} (hv : m x = some v) (h : Q v s) (hk : env.scope.kind = .function := by rfl) (hl : isVar env x = true := by rfl)
    (hn : (x == ("__classdict__" : Str)) = false := by decide) (hd : (x == ("__debug__" : Str)) = false := by decide) : wpAny (model P31 w) A (eval (.Name x pos) env) Q NoE s :=
  @wpAny_Name _ _ _ _ _ _ _ _ (@ldn _ _ _ _ _ _ _ _ _ _ _ Z _ hv h hk hl hn) hd
theorem ldg (Z : St w T s₀ env m mus news s) {Q : Value → Shared → Prop} (hv : (globTab T).lookup x = some v) (h : Q v s) (hg : env.globals = mainGlobals := by rfl) (hk : env.scope.kind = .function := by rfl)
    (hl : env.kindOf x = some .globalImplicit := by rfl) (hd : (x == ("__debug__" : Str)) = false := by decide) : wpAny (model P31 w) A (eval (.Name x pos) env) Q NoE s :=
  @Name_function_global _ _ _ _ _ _ _ _ hk hl (loadGlobal_global (env := env) (by rw [hg]; exact Z.g.ns) (Z.g.ok.glob x v hv) h) hd
theorem ldb (Z : St w T s₀ env m mus news s) {Q : Value → Shared → Prop} (hv : bltTab.lookup x = some v) (h : Q v s) (hg : env.globals = mainGlobals := by rfl) (hb : env.builtins = builtinsNs := by rfl) (hk : env.scope.kind = .function := by rfl)
    (hl : env.kindOf x = some .globalImplicit := by rfl) (hd : (x == ("__debug__" : Str)) = false := by decide) : wpAny (model P31 w) A (eval (.Name x pos) env) Q NoE s :=
  @Name_function_global _ _ _ _ _ _ _ _ hk hl (loadGlobal_builtin (env := env) (by rw [hg]; exact Z.g.ns) (Z.g.ok.blt x v hv).1 (by rw [hb]; exact Z.g.nb) (Z.g.ok.blt x v hv).2 h) hd

theorem stl (Z : St w T s₀ env m mus news s) {Q : Unit → Shared → Prop} (h : ∀ s', St w T s₀ env (upd m x v) mus news s' → Q () s') (hk : env.scope.kind = .function := by rfl) (hl : env.kindOf x = some .local := by rfl)
    (hc : env.cells.lookup x = none := by rfl) : wpAny (model P31 w) A (storeName env x v) Q NoE s := by
  obtain ⟨ml, hns, he⟩ := Z.ns
  refine @wpAny_storeName_local _ _ _ _ _ _ _ _ _ hl hns (fun h' hn hs => h _ ?_) (by rw [hk]; rfl)
  obtain ⟨oL, es, ep, hL, hLd, _⟩ := id hns
  have hlo : s₀.heap.get? env.locals = none := Heap.get?_none_of_le Z.low
  obtain ⟨g, gr, kp⟩ := Z.write hL hlo (.inr fun vs q => by rw [hLd] at q; cases q) (SameBut.kp hs)
  refine ⟨Z.g₀, g, gr, Z.os, Z.gens, Z.low, ⟨_, hn, fun y hy => ?_⟩, fun y c e => ⟨?_, (Z.cel y c e).2⟩, Z.capart, fun p hp => ?_, Z.md, fun p hp => ?_⟩
  · unfold upd
    split
    · rfl
    · exact he y hy
  · obtain ⟨⟨oc, hoc, hd⟩, hne⟩ := Z.cel y c e
    have : y ≠ x := fun q => by rw [q, hc] at e; cases e
    exact ⟨oc, kp _ _ hne hoc, by rw [hd]; unfold upd; rw [if_neg this]⟩
  · obtain ⟨a1, a2, a3, r⟩ := Z.mu p hp
    exact ⟨kp _ _ a3 a1, a2, a3, r⟩
  · obtain ⟨a1, a2, a3, r⟩ := Z.nw p hp
    exact ⟨kp _ _ a3 a1, a2, a3, r⟩
theorem stc {c : Addr} (Z : St w T s₀ env m mus news s) {Q : Unit → Shared → Prop} (hc : env.cells.lookup x = some c) (hlo : s₀.heap.objs.size ≤ c) (h : ∀ s', St w T s₀ env (upd m x v) mus news s' → Q () s')
    (hk : env.scope.kind = .function := by rfl) (hl : env.kindOf x = some .cell := by rfl) : wpAny (model P31 w) A (storeName env x v) Q NoE s := by
  obtain ⟨hic, hcl⟩ := Z.cel x c hc
  refine @wpAny_storeName_cell _ _ _ _ _ _ _ _ _ _ hk hl hc hic (fun h' hn hs => h _ ?_)
  obtain ⟨oc, hoc, hocd⟩ := id hic
  obtain ⟨g, gr, kp⟩ := Z.write hoc (Heap.get?_none_of_le hlo) (.inr fun vs q => by rw [hocd] at q; cases q) (SameBut.kp hs)
  refine ⟨Z.g₀, g, gr, Z.os, Z.gens, Z.low, ?_, fun y c' e => ⟨?_, (Z.cel y c' e).2⟩, Z.capart, fun p hp => ?_, Z.md, fun p hp => ?_⟩
  · obtain ⟨ml, ⟨oL, es, ep, hL, r⟩, b⟩ := Z.ns
    refine ⟨ml, ⟨oL, es, ep, kp _ _ (Ne.symm hcl) hL, r⟩, fun y hy => ?_⟩
    have : y ≠ x := fun q => by rw [q, hl] at hy; cases hy
    unfold upd; rw [if_neg this]; exact b y hy
  · unfold upd
    by_cases q : y = x
    · rw [if_pos q]
      obtain rfl : c' = c := by rw [q, hc] at e; exact (Option.some.inj e).symm
      exact hn
    · rw [if_neg q]
      obtain ⟨⟨o2, ho2, hd2⟩, _⟩ := Z.cel y c' e
      exact ⟨o2, kp _ _ (fun z => q (Z.capart y x c' e (z ▸ hc))) ho2, hd2⟩
  · obtain ⟨a1, a2, a3, a4, a5⟩ := Z.mu p hp
    exact ⟨kp _ _ (fun q => a5 x (q ▸ hc)) a1, a2, a3, a4, a5⟩
  · obtain ⟨a1, a2, a3, a4, a5, a6⟩ := Z.nw p hp
    exact ⟨kp _ _ (fun q => a5 x (q ▸ hc)) a1, a2, a3, a4, a5, a6⟩
end

/-- the names at a def's start -/
noncomputable def mOf (env : Env) (binds : List (Str × Value)) : Str → Option Value := fun x =>
  if env.kindOf x = some .local then bindL env.kindOf binds (fun _ => none) x else bindC env.kindOf binds (fun _ => none) x
noncomputable abbrev envF (T : Tops) (i : Nat) (L : Addr) : Env := callEnvC (fdOf T i) L (T.f i)
theorem cells_mem {x : Str} {c : Addr} : ∀ {names : List (Str × NameKind)} {acc : List (Str × Addr)} {n : Nat}, (cellsFrom n names acc).lookup x = some c → (x, NameKind.cell) ∈ names ∨ acc.lookup x = some c
  | [], _, _, h => .inr h
  | (y, k) :: r, acc, n, h => by
    unfold cellsFrom at h
    split at h
    · rename_i hk
      rcases cells_mem h with q | q
      · exact .inl (.tail _ q)
      · rw [List.lookup_cons] at q
        cases hb : x == y with
        | true => rw [eq_of_beq hb, eq_of_beq hk]; exact .inl (.head _)
        | false => rw [hb] at q; exact .inr q
    · exact (cells_mem h).imp (fun q => .tail _ q) id
noncomputable def cellsPlain (sc : Scope) : Bool := sc.names.all fun x => x.2 != .cell || sc.names.lookup x.1 == some .cell
noncomputable def bindsOk (sc : Scope) (binds : List (Str × Value)) : Bool := binds.all fun y => sc.names.lookup y.1 == some .local || (sc.names.lookup y.1 == some .cell)
theorem cells_some {x : Str} : ∀ {names : List (Str × NameKind)} {acc : List (Str × Addr)} {n : Nat}, ((x, NameKind.cell) ∈ names ∨ (acc.lookup x).isSome = true) → ((cellsFrom n names acc).lookup x).isSome = true
  | [], _, _, h => h.elim (fun q => nomatch q) id
  | (y, k) :: r, acc, n, h => by
    unfold cellsFrom
    split
    · refine cells_some ?_
      by_cases hy : x = y
      · exact .inr (by rw [hy, List.lookup_cons]; simp)
      · rcases h with h | h
        · rcases List.mem_cons.mp h with e | h
          · exact absurd (congrArg Prod.fst e) hy
          · exact .inl h
        · exact .inr (by rw [List.lookup_cons, beq_eq_false_iff_ne.mpr hy]; exact h)
    · rename_i hk
      refine cells_some ?_
      rcases h with h | h
      · rcases List.mem_cons.mp h with e | h
        · cases e; exact absurd rfl hk
        · exact .inl h
      · exact .inr h
theorem lookup_mem' {α : Type} {l : List (Str × α)} {n : Str} {c : α} (h : l.lookup n = some c) : (n, c) ∈ l := mem_of_lookup h

section
variable {w : World} {T : Tops} {s : Shared} {A : Around}
/-- a call of one of the text's defs -/
theorem call_fn {i : Nat} {args : List Value} {binds : List (Str × Value)} {Q : Value → Shared → Prop} (hi : i < 19) (g : G w T s.heap) (room : A.depth < recursionLimit)
    (hb : bindArgs (fdOf T i) ⟨args, []⟩ = pure binds) (hbo : bindsOk (fScope (fAt i)) binds = true) (hcp : cellsPlain (fScope (fAt i)) = true)
    (h : ∀ s₁, St w T s (envF T i s.heap.objs.size) (mOf (envF T i s.heap.objs.size) binds) [] [] s₁ →
      wpAny (model P31 w) (A.deeper (envF T i s.heap.objs.size)) (execs (fBody (fAt i)) (envF T i s.heap.objs.size)) (fun f s' => Q (match f with | .ret v => v | _ => .none) s') NoE s₁)
    (hco : (fScope (fAt i)).isCoroutine = false) (hgen : (fScope (fAt i)).isGenerator = false) (hk : (fScope (fAt i)).kind = .function) :
    wpAny (model P31 w) A (call (.ref (T.f i)) args) Q NoE s := by
  have hkind : ∀ x ∈ binds, (fdOf T i).scope.names.lookup x.1 = some .local ∨ ((fdOf T i).scope.names.lookup x.1 = some .cell ∧ ((cellsFrom (s.heap.objs.size + 1) (fdOf T i).scope.names []).lookup x.1).isSome = true) := fun x hx => by
    have := List.all_eq_true.mp hbo x hx
    rcases Bool.or_eq_true_iff.mp this with q | q
    · exact .inl (beq_iff_eq.mp q)
    · exact .inr ⟨beq_iff_eq.mp q, cells_some (.inl (lookup_mem' (beq_iff_eq.mp q)))⟩
  refine @wpAny_call _ _ _ _ _ _ _ _ (codeAny_call_cells (fd := fdOf T i) (body := fBody (fAt i)) (binds := binds) room (g.fn i hi).1 rfl g.nolim (g.fn i hi).2.rec' rfl hb rfl hkind (fun s₁ X => ?_) hco hgen hk)
  obtain ⟨hh, tk, e⟩ := X.toInCall.same
  have Z : St w T s (envF T i s.heap.objs.size) (mOf (envF T i s.heap.objs.size) binds) [] [] s₁ := by
    refine ⟨g, g.keeps X.toInCall.keep, .of_keep X.toInCall.keep, by rw [e], by rw [e], X.toInCall.fresh, ⟨_, X.toInCall.ns, fun x hx => ?_⟩, fun x c hc => ?_, fun x y c h1 h2 => ?_, (fun _ hp => nomatch hp), .nil, (fun _ hp => nomatch hp)⟩
    · unfold mOf; rw [if_pos hx]
    · have hm : (x, NameKind.cell) ∈ (fScope (fAt i)).names := (cells_mem hc).elim id fun q => nomatch q
      have hl : (envF T i s.heap.objs.size).kindOf x = some .cell := by
        have := List.all_eq_true.mp hcp _ hm
        have q : (fScope (fAt i)).names.lookup x = some .cell := by simpa using this
        exact q
      have : ¬ (envF T i s.heap.objs.size).kindOf x = some .local := by rw [hl]; decide
      unfold mOf; rw [if_neg this]
      exact ⟨X.cell x c hc, Nat.ne_of_gt (X.above x c (lookup_mem' hc))⟩
    · exact name_of_addr X.apart (lookup_mem' h1) (lookup_mem' h2)
  exact @wpAny_mono _ _ _ _ _ _ _ _ _ (h s₁ Z) (fun _ _ q => q) fun _ _ q => q.elim
end
end Mine
namespace Mine
open PySem PySem.W PySem.Calls PyProof.Rows
section
variable {w : World} {T : Tops} {s₀ : Shared} {env : Env} {m : Str → Option Value} {mus news : List (Addr × Obj)}
theorem St.hideN {s : Shared} (Z : St w T s₀ env m mus news s) : ∃ base, news = base ∧ St w T s₀ env m mus base s := ⟨_, rfl, Z⟩
theorem St.withS {s : Shared} {P : Prop} (Z : St w T s₀ env m mus news s) (k : ∀ N, (∀ p, p ∈ news → p ∈ N) → St w T s₀ env m mus N s → P) : P := k news (fun _ h => h) Z
theorem St.hideU {s : Shared} (Z : St w T s₀ env m mus news s) : ∃ ms, mus = ms ∧ St w T s₀ env m ms news s := ⟨_, rfl, Z⟩
theorem St.hideM {s : Shared} (Z : St w T s₀ env m mus news s) : ∃ m', (∀ x, m' x = m x) ∧ St w T s₀ env m' mus news s := ⟨_, fun _ => rfl, Z⟩
end

noncomputable abbrev tupO (vs : Array Value) : Obj := { cls := .type "tuple", data := .seq vs }
noncomputable abbrev lstO (vs : Array Value) (n : Nat) : Obj := { cls := .type "list", data := .seq vs n }

noncomputable def isStar : Expr → Bool
  | .Starred .. => true
  | _ => false
theorem se_cons {e : Expr} {rest : List Expr} {env : Env} (h : isStar e = false) : starEach (e :: rest) env = (false, eval e env) :: starEach rest env := by
  cases e <;> first | rfl | cases h
theorem se_plain {pos : Pos} {env : Env} : ∀ {rest : List Expr}, rest.all (fun e => !isStar e) = true → (backTo pos (starEach rest env)).any (·.1) = false
  | [], _ => rfl
  | e :: rest, h => by
    rw [List.all_cons, Bool.and_eq_true] at h
    rw [se_cons (by simpa using h.1)]
    have := se_plain (pos := pos) (env := env) h.2
    unfold backTo at this ⊢
    simp only [List.map_cons, List.any_cons] at this ⊢
    simpa using this
section
variable {w : World} {T : Tops} {s₀ s : Shared} {env : Env} {m : Str → Option Value} {mus news : List (Addr × Obj)} {A : Around} {E : Value → Shared → Prop} {a b : Int} {t u : Tok} {Q : Value → Shared → Prop}
theorem k_int {i : Int} {k : Nat} {pos : Pos} (Z : St w T s₀ env m mus news s) (h : ∀ t s, St w T s₀ env m mus news s → Q (.int i t) s) : wpAny (model P31 w) A (eval (.Constant (.int i) k pos) env) Q E s := @wpAny_Constant_int _ _ _ _ _ _ _ _ _ (h _ _ Z.tok)
theorem k_str {x : Str} {k : Nat} {pos : Pos} (Z : St w T s₀ env m mus news s) (h : ∀ t s, St w T s₀ env m mus news s → Q (.str x t) s) : wpAny (model P31 w) A (eval (.Constant (.str x) k pos) env) Q E s := @wpAny_Constant_str _ _ _ _ _ _ _ _ _ (h _ _ Z.tok)
theorem r_add (Z : St w T s₀ env m mus news s) (h : ∀ t s, St w T s₀ env m mus news s → Q (.int (a + b) t) s) : wpAny (model P31 w) A (binaryOp .Add (.int a t) (.int b u)) Q E s := @add_int _ _ _ _ _ _ _ _ _ _ (h _ _ Z.tok)
theorem r_sub (Z : St w T s₀ env m mus news s) (h : ∀ t s, St w T s₀ env m mus news s → Q (.int (a - b) t) s) : wpAny (model P31 w) A (binaryOp .Sub (.int a t) (.int b u)) Q E s := @sub_int _ _ _ _ _ _ _ _ _ _ (h _ _ Z.tok)
theorem r_mul (Z : St w T s₀ env m mus news s) (hm : IntMulOk a b) (h : ∀ t s, St w T s₀ env m mus news s → Q (.int (a * b) t) s) : wpAny (model P31 w) A (binaryOp .Mult (.int a t) (.int b u)) Q E s := @mul_int _ _ _ _ _ _ _ _ _ _ (h _ _ Z.tok) hm
theorem r_fdiv (Z : St w T s₀ env m mus news s) (hb : b ≠ 0) (hp : Builtin.divisionGoesByPylong a b = false) (h : ∀ t s, St w T s₀ env m mus news s → Q (.int (a.fdiv b) t) s) : wpAny (model P31 w) A (binaryOp .FloorDiv (.int a t) (.int b u)) Q E s := floordiv_int hb (h _ _ Z.tok) (.inl hp)
theorem r_mod (Z : St w T s₀ env m mus news s) (hb : b ≠ 0) (h : ∀ t s, St w T s₀ env m mus news s → Q (.int (a.fmod b) t) s) : wpAny (model P31 w) A (binaryOp .Mod (.int a t) (.int b u)) Q E s := @mod_int' _ _ _ _ _ _ _ _ _ _ hb (h _ _ Z.tok)
theorem r_shl (Z : St w T s₀ env m mus news s) (hn : 0 ≤ b) (hsz : (Builtin.Int.intBits a : Int) + b ≤ 2 ^ 27) (h : ∀ t s, St w T s₀ env m mus news s → Q (.int (a * 2 ^ b.toNat) t) s) : wpAny (model P31 w) A (binaryOp .LShift (.int a t) (.int b u)) Q E s := @lshift_int _ _ _ _ _ _ _ _ _ _ hn hsz (h _ _ Z.tok)
theorem r_shr (Z : St w T s₀ env m mus news s) (hn : 0 ≤ b) (h : ∀ t s, St w T s₀ env m mus news s → Q (.int (a.fdiv (2 ^ b.toNat)) t) s) : wpAny (model P31 w) A (binaryOp .RShift (.int a t) (.int b u)) Q E s := @rshift_int _ _ _ _ _ _ _ _ _ _ hn (h _ _ Z.tok)
theorem r_and (Z : St w T s₀ env m mus news s) (h : ∀ t s, St w T s₀ env m mus news s → Q (.int (Builtin.bitAnd a b) t) s) : wpAny (model P31 w) A (binaryOp .BitAnd (.int a t) (.int b u)) Q E s := @and_int _ _ _ _ _ _ _ _ _ _ (h _ _ Z.tok)
theorem r_or (Z : St w T s₀ env m mus news s) (h : ∀ t s, St w T s₀ env m mus news s → Q (.int (Builtin.bitOr a b) t) s) : wpAny (model P31 w) A (binaryOp .BitOr (.int a t) (.int b u)) Q E s := @or_int _ _ _ _ _ _ _ _ _ _ (h _ _ Z.tok)
theorem r_xor (Z : St w T s₀ env m mus news s) (h : ∀ t s, St w T s₀ env m mus news s → Q (.int (Builtin.bitXor a b) t) s) : wpAny (model P31 w) A (binaryOp .BitXor (.int a t) (.int b u)) Q E s := @xor_int _ _ _ _ _ _ _ _ _ _ (h _ _ Z.tok)
theorem r_pow (Z : St w T s₀ env m mus news s) (hn : 0 ≤ b) (hsz : (Builtin.Int.intBits a : Int) * b ≤ 2 ^ 27) (h : ∀ t s, St w T s₀ env m mus news s → Q (.int (a ^ b.toNat) t) s) : wpAny (model P31 w) A (binaryOp .Pow (.int a t) (.int b u)) Q E s := @pow_int _ _ _ _ _ _ _ _ _ _ hn hsz (h _ _ Z.tok)
theorem r_iadd (Z : St w T s₀ env m mus news s) (h : ∀ t s, St w T s₀ env m mus news s → Q (.int (a + b) t) s) : wpAny (model P31 w) A (inplaceOp .Add (.int a t) (.int b u)) Q E s := @iadd_int _ _ _ _ _ _ _ _ _ _ (h _ _ Z.tok)
theorem r_isub (Z : St w T s₀ env m mus news s) (h : ∀ t s, St w T s₀ env m mus news s → Q (.int (a - b) t) s) : wpAny (model P31 w) A (inplaceOp .Sub (.int a t) (.int b u)) Q E s := @isub_int _ _ _ _ _ _ _ _ _ _ (h _ _ Z.tok)
theorem r_ishl (Z : St w T s₀ env m mus news s) (hn : 0 ≤ b) (hsz : (Builtin.Int.intBits a : Int) + b ≤ 2 ^ 27) (h : ∀ t s, St w T s₀ env m mus news s → Q (.int (a * 2 ^ b.toNat) t) s) : wpAny (model P31 w) A (inplaceOp .LShift (.int a t) (.int b u)) Q E s := @ilshift_int _ _ _ _ _ _ _ _ _ _ hn hsz (h _ _ Z.tok)
theorem r_ishr (Z : St w T s₀ env m mus news s) (hn : 0 ≤ b) (h : ∀ t s, St w T s₀ env m mus news s → Q (.int (a.fdiv (2 ^ b.toNat)) t) s) : wpAny (model P31 w) A (inplaceOp .RShift (.int a t) (.int b u)) Q E s := @irshift_int _ _ _ _ _ _ _ _ _ _ hn (h _ _ Z.tok)
theorem r_neg (Z : St w T s₀ env m mus news s) (h : ∀ t s, St w T s₀ env m mus news s → Q (.int (-a) t) s) : wpAny (model P31 w) A (unaryOp .USub (.int a t)) Q E s := @neg_int _ _ _ _ _ _ _ _ (h _ _ Z.tok)
theorem r_inv (Z : St w T s₀ env m mus news s) (h : ∀ t s, St w T s₀ env m mus news s → Q (.int (-a - 1) t) s) : wpAny (model P31 w) A (unaryOp .Invert (.int a t)) Q E s := @invert_int _ _ _ _ _ _ _ _ (h _ _ Z.tok)
theorem r_divmod (Z : St w T s₀ env m mus news s) (hb : b ≠ 0) (hp : Builtin.divisionGoesByPylong a b = false)
    (h : ∀ d t1 t2 s, St w T s₀ env m mus ((d, tupO #[.int (a.fdiv b) t1, .int (a.fmod b) t2]) :: news) s → Q (.ref d) s) : wpAny (model P31 w) A (call (.builtin "divmod") [.int a t, .int b u]) Q E s :=
  divmod_int hb (h _ _ _ _ (Z.push (tupO _))) (.inl hp)
theorem r_max (Z : St w T s₀ env m mus news s) (hh : A.handled = none) (h : ∀ t s, St w T s₀ env m mus news s → Q (.int (max a b) t) s) : wpAny (model P31 w) A (call (.builtin "max") [.int a t, .int b u]) Q E s :=
  @max_two_ints _ _ _ _ _ _ _ _ _ _ hh fun h' tk hk => by
    have Z' := Z.later (.of_keep (t := tk) Z.g hk)
    by_cases c : b > a
    · have := h u _ Z'; rw [show max a b = b by lia] at this; simpa only [if_pos c] using this
    · have := h t _ Z'; rw [show max a b = a by lia] at this; simpa only [if_neg c] using this
theorem r_min (Z : St w T s₀ env m mus news s) (hh : A.handled = none) (h : ∀ t s, St w T s₀ env m mus news s → Q (.int (min a b) t) s) : wpAny (model P31 w) A (call (.builtin "min") [.int a t, .int b u]) Q E s :=
  @min_two_ints _ _ _ _ _ _ _ _ _ _ hh fun h' tk hk => by
    have Z' := Z.later (.of_keep (t := tk) Z.g hk)
    by_cases c : b < a
    · have := h u _ Z'; rw [show min a b = b by lia] at this; simpa only [if_pos c] using this
    · have := h t _ Z'; rw [show min a b = a by lia] at this; simpa only [if_neg c] using this
/-- a call of a text's def by its name, the args to come -/
theorem r_callfn {i : Nat} {e : Expr} {rest : List Expr} {pos : Pos}
    (h : wpAny (model P31 w) A (spliced (backTo pos (starEach (e :: rest) env))) (fun vs s₁ => s₁.heap.get? (T.f i) = some (fObj T i) ∧ wpAny (model P31 w) A (call (.ref (T.f i)) vs) Q E s₁) E s)
    (hs : isStar e = false := by rfl) : wpAny (model P31 w) A (callWith pos (.ref (T.f i)) [] (backTo pos (starEach (e :: rest) env)) []) Q E s := callWith_def (o := fObj T i) rfl h (se_cons hs)
theorem c_blt {pos : Pos} {id : String} {e : Expr} {rest : List Expr} (h : wpAny (model P31 w) A (spliced (backTo pos (starEach (e :: rest) env))) (fun vs s₁ => wpAny (model P31 w) A (call (.builtin id) vs) Q E s₁) E s)
    (hs : isStar e = false := by rfl) (hr : rest.all (fun e => !isStar e) = true := by rfl) :
    wpAny (model P31 w) A (callWith pos (.builtin id) [] (backTo pos (starEach (e :: rest) env)) []) Q E s := @PyProof.Rows.callWith_builtin1 _ _ _ _ _ _ _ _ _ _ h (se_cons hs) (se_plain hr)
theorem c_typ {pos : Pos} {id : String} {e : Expr} {rest : List Expr} (h : wpAny (model P31 w) A (spliced (backTo pos (starEach (e :: rest) env))) (fun vs s₁ => wpAny (model P31 w) A (call (.type id) vs) Q E s₁) E s)
    (hs : isStar e = false := by rfl) (hr : rest.all (fun e => !isStar e) = true := by rfl) :
    wpAny (model P31 w) A (callWith pos (.type id) [] (backTo pos (starEach (e :: rest) env)) []) Q E s := @PyProof.Rows.callWith_type1 _ _ _ _ _ _ _ _ _ _ h (se_cons hs) (se_plain hr)
theorem c_meth {pos : Pos} {id : String} {first : List Value} {e : Expr} {rest : List Expr}
    (h : wpAny (model P31 w) A (spliced (backTo pos (starEach (e :: rest) env))) (fun vs s₁ => wpAny (model P31 w) A (call (.builtin id) (first ++ vs)) Q E s₁) E s)
    (hs : isStar e = false := by rfl) (hr : rest.all (fun e => !isStar e) = true := by rfl) :
    wpAny (model P31 w) A (callWith pos (.builtin id) first (backTo pos (starEach (e :: rest) env)) []) Q E s := @callWith_method1 _ _ _ _ _ _ _ _ _ _ _ h (se_cons hs) (se_plain hr)
theorem c_def {pos : Pos} {f : Addr} {o : Obj} {fd : FuncData} {e : Expr} {rest : List Expr} (hdat : o.data = .func fd)
    (h : wpAny (model P31 w) A (spliced (backTo pos (starEach (e :: rest) env))) (fun vs s₁ => s₁.heap.get? f = some o ∧ wpAny (model P31 w) A (call (.ref f) vs) Q E s₁) E s)
    (hs : isStar e = false := by rfl) : wpAny (model P31 w) A (callWith pos (.ref f) [] (backTo pos (starEach (e :: rest) env)) []) Q E s := @callWith_def _ _ _ _ _ _ _ _ _ _ _ _ hdat h (se_cons hs)
theorem a_cons {e : Expr} {rest : List Expr} {pos : Pos} {Q : List Value → Shared → Prop}
    (h : wpAny (model P31 w) A (eval e env) (fun v s₁ => wpAny (model P31 w) A (spliced (backTo pos (starEach rest env))) (fun vs s₂ => Q (v :: vs) s₂) E s₁) E s)
    (hs : isStar e = false := by rfl) : wpAny (model P31 w) A (spliced (backTo pos (starEach (e :: rest) env))) Q E s := @PyProof.Rows.args_cons _ _ _ _ _ _ _ _ _ h (se_cons hs)
theorem c_call {x : Str} {p pos : Pos} {args : List Expr} (h : wpAny (model P31 w) A (eval (.Name x p) env) (fun f s₁ => wpAny (model P31 w) A (callWith pos f [] (backTo pos (starEach args env)) []) Q E s₁) E s) :
    wpAny (model P31 w) A (eval (.Call (.Name x p) args [] pos) env) Q E s := @Call_ _ _ _ _ _ _ _ _ _ (h) (by rfl)
end
end Mine
namespace Mine
open PySem PySem.W PySem.Calls PyProof.Rows
section
variable {w : World} {T : Tops} {s₀ s : Shared} {env : Env} {m : Str → Option Value} {mus news : List (Addr × Obj)} {A : Around} {E : Value → Shared → Prop} {a b : Int} {t u : Tok} {Q : Value → Shared → Prop}
theorem r_bitlen (Z : St w T s₀ env m mus news s) (h : ∀ t s, St w T s₀ env m mus news s → Q (.int (Builtin.Int.intBits a : Nat) t) s) : wpAny (model P31 w) A (call (.builtin "int.bit_length") [.int a t]) Q E s :=
  @call_gives _ _ _ _ _ _ _ _ _ _ _ _ _ slot_int_bit_length (typeIs_int s a t) entry_int_bit_length (args_int_bit_length _) (PySem.AutoIntG2.int_bit_length_int_0 a t) (h _ _ Z.tok)
theorem r_unpack2 {x y : Str} {p1 p2 pos : Pos} {k} {d : Addr} {v1 v2 : Value} {Q : Unit → Shared → Prop} (Z : St w T s₀ env m mus news s) (hh : A.handled = none) (hm : s.heap.get? d = some (tupO #[v1, v2]))
    (h : ∀ s, St w T s₀ env m mus news s → wpAny (model P31 w) A (storeName env x v1) (fun _ s => wpAny (model P31 w) A (storeName env y v2) Q E s) E s) :
    wpAny (model P31 w) A (assign (.Tuple [.Name x p1, .Name y p2] k pos) env (.ref d)) Q E s := by
  refine @wpAny_assign_Tuple _ _ _ _ _ _ _ _ _ _ _ _ hh ⟨_, hm, rfl, _, rfl⟩ rfl rfl fun h' hx => ?_
  have Z' := Z.later (.of_keep (t := s.toks) Z.g fun b o e => hx b o (Nat.ne_of_lt (Heap.lt_size e)) e)
  exact @assignInOrder_cons _ _ _ _ _ _ _ _ _ (@wpAny_assign_Name _ _ _ _ _ _ _ _ _ (@wpAny_mono _ _ _ _ _ _ _ _ _ (h _ Z') (fun _ s h => @assignInOrder_cons _ _ _ _ _ _ _ _ _ (@wpAny_assign_Name _ _ _ _ _ _ _ _ _ (@wpAny_mono _ _ _ _ _ _ _ _ _ h (fun _ _ h => @assignInOrder_nil _ _ _ _ _ _ h) fun _ _ h => h))) fun _ _ h => h))
theorem r_unpackItems2 {d : Addr} {v1 v2 : Value} {Q : List Value → Shared → Prop} (Z : St w T s₀ env m mus news s) (hh : A.handled = none) (hm : s.heap.get? d = some (tupO #[v1, v2]))
    (h : ∀ s, St w T s₀ env m mus news s → Q [v1, v2] s) : wpAny (model P31 w) A (unpackItems (.ref d) 2 none) Q E s :=
  PySem.wpAny_unpackItems_tuple (items := #[v1, v2]) hh ⟨_, hm, rfl, _, rfl⟩ fun _ hx => h _ (Z.later (.of_keep (t := s.toks) Z.g fun b o e => hx b o (Nat.ne_of_lt (Heap.lt_size e)) e))
theorem r_tuple2 {v1 v2 : Value} (Z : St w T s₀ env m mus news s) (h : ∀ d s, St w T s₀ env m mus ((d, tupO #[v1, v2]) :: news) s → Q (.ref d) s) : wpAny (model P31 w) A (newTuple [v1, v2]) Q E s :=
  @wpAny_newTuple _ _ _ _ _ _ ((h _ _ (Z.push (tupO #[v1, v2]) (t := s.toks)))) (by size_fits)
theorem upd_over {x : Str} {v v' : Value} : upd (upd m x v) x v' = upd m x v' := by
  funext y; unfold upd; split <;> rfl
theorem upd4 {x y : Str} {a b a' b' : Value} : upd (upd (upd (upd m x a) y b) x a') y b' = upd (upd m x a') y b' := by
  funext z; unfold upd; split
  · rfl
  · split <;> rfl
theorem upd_swap {x y : Str} {v v' : Value} (h : x ≠ y) : upd (upd m x v) y v' = upd (upd m y v') x v := by
  funext z; unfold upd; split
  · rename_i e; subst e; rw [if_neg (Ne.symm h)]
  · rfl
end
end Mine
namespace Mine
open PySem PySem.W PySem.Calls PyProof.Rows
section
variable {w : World} {T : Tops} {s₀ s : Shared} {env : Env} {m : Str → Option Value} {mus news : List (Addr × Obj)} {A : Around} {Q : Flow → Shared → Prop}
theorem r_while {test : Expr} {body : List Stmt} {pos : Pos} (I : Nat → Shared → Prop)
    (turn : ∀ n s, I n s → wpAny (model P31 w) A (isTrue test env (eval test env)) (fun c s => if c then wpAny (model P31 w) A (execs body env) (fun f s => match f with
      | .next | .cont => ∃ k, k < n ∧ I k s
      | .brk => Q .next s
      | .ret v => Q (.ret v) s) NoE s else Q .next s) NoE s) (n : Nat) (h : I n s) : wpAny (model P31 w) A (exec (.While test body [] pos) env) Q NoE s := by
  refine @wpAny_While _ _ _ _ _ _ _ _ _ _ (codeAny_whileLoop I (fun n s hI => @wpAny_mono _ _ _ _ _ _ _ _ _ (turn n s hI) (fun c s h => ?_) fun _ _ h => h.elim) n h)
  cases c with
  | true =>
    simp only [if_true] at h ⊢
    refine @wpAny_mono _ _ _ _ _ _ _ _ _ h (fun f s h => ?_) fun _ _ h => h.elim
    cases f <;> exact h
  | false =>
    simp only [Bool.false_eq_true, if_false] at h ⊢
    exact @wpAny_execs_nil _ _ _ _ _ _ h
theorem r_forLoop {target : Expr} {it : Value} {body : List Stmt} (I : Nat → Shared → Prop)
    (turn : ∀ n s, I n s → wpAny (model P31 w) A (pyNext it) (fun r s => match r with
      | none => Q .next s
      | some v => wpAny (model P31 w) A (assign target env v) (fun _ s => wpAny (model P31 w) A (execs body env) (fun f s => match f with
          | .next | .cont => ∃ k, k < n ∧ I k s
          | .brk => Q .next s
          | .ret v => Q (.ret v) s) NoE s) NoE s) NoE s) (n : Nat) (h : I n s) (ht : ∀ v, letOwnedTupleGo target it v = pure () := by intro _; rfl) :
    codeAny (model P31 w) A (.forLoop target it body [] env) (fun r s' => match r with | .ok f => Q f s' | .error e => cameBackBy (model P31 w) A env NoE e s') s := by
  refine codeAny_forLoop I (fun n s hI => @wpAny_mono _ _ _ _ _ _ _ _ _ (turn n s hI) (fun r s h => ?_) fun _ _ h => h.elim) n h ht
  cases r with
  | none => exact @wpAny_execs_nil _ _ _ _ _ _ h
  | some v =>
    refine @wpAny_mono _ _ _ _ _ _ _ _ _ h (fun _ s h => @wpAny_mono _ _ _ _ _ _ _ _ _ h (fun f s h => ?_) fun _ _ h => h.elim) fun _ _ h => h.elim
    cases f <;> exact h
end
end Mine
namespace Mine
open PySem
theorem bitAnd_nn {a b : Int} (ha : 0 ≤ a) (hb : 0 ≤ b) : Builtin.bitAnd a b = ((a.toNat &&& b.toNat : Nat) : Int) := by
  unfold Builtin.bitAnd; simp [ha, hb]
theorem bitOr_nn {a b : Int} (ha : 0 ≤ a) (hb : 0 ≤ b) : Builtin.bitOr a b = ((a.toNat ||| b.toNat : Nat) : Int) := by
  have h1 : ¬ (0 ≤ -a - 1) := by lia
  have h2 : ¬ (0 ≤ -b - 1) := by lia
  have e1 : (- (-a - 1) - 1) = a := by lia
  have e2 : (- (-b - 1) - 1) = b := by lia
  unfold Builtin.bitOr Builtin.bitAnd Builtin.bitNot
  simp only [h1, h2, decide_false, e1, e2]; lia
theorem bitAnd_mask {a : Int} (k : Nat) (ha : 0 ≤ a) : Builtin.bitAnd a (2 ^ k - 1) = a % 2 ^ k := by
  obtain ⟨x, rfl⟩ := Int.eq_ofNat_of_zero_le ha
  have hp : 1 ≤ 2 ^ k := Nat.one_le_two_pow
  have e : ((2 : Int) ^ k - 1) = ((2 ^ k - 1 : Nat) : Int) := by rw [Int.natCast_sub hp]; push_cast; rfl
  rw [e, bitAnd_nn ha (by (clear ha hp e; lia))]
  simp only [Int.toNat_natCast, Nat.and_two_pow_sub_one_eq_mod]
  push_cast; rfl
theorem bitOr_shl {x y : Int} (k : Nat) (hx : 0 ≤ x) (hy : 0 ≤ y) (h : y < 2 ^ k) : Builtin.bitOr (x * 2 ^ k) y = x * 2 ^ k + y := by
  obtain ⟨a, rfl⟩ := Int.eq_ofNat_of_zero_le hx
  obtain ⟨b, rfl⟩ := Int.eq_ofNat_of_zero_le hy
  have hb : b < 2 ^ k := by exact_mod_cast h
  have e : ((a : Int) * 2 ^ k) = ((2 ^ k * a : Nat) : Int) := by push_cast; rw [Int.mul_comm]
  rw [e, bitOr_nn (by omega) (by lia)]
  simp only [Int.toNat_natCast]
  rw [← Nat.two_pow_add_eq_or_of_lt hb]
  push_cast; rfl
theorem high_bit (x k i : Nat) : (x / 2 ^ k * 2 ^ k).testBit i = (decide (k ≤ i) && x.testBit i) := by
  rw [Nat.mul_comm, Nat.testBit_two_pow_mul, Nat.testBit_div_two_pow]
  by_cases h : k ≤ i
  · simp [h, show i - k + k = i by omega]
  · simp [h]
theorem bitXor_high {x : Int} (k : Nat) (hx : 0 ≤ x) : Builtin.bitXor x (x / 2 ^ k * 2 ^ k) = x % 2 ^ k := by
  obtain ⟨a, rfl⟩ := Int.eq_ofNat_of_zero_le hx
  have e : ((a : Int) / 2 ^ k * 2 ^ k) = ((a / 2 ^ k * 2 ^ k : Nat) : Int) := by push_cast; rfl
  unfold Builtin.bitXor
  rw [e, bitOr_nn (by lia) (by omega), bitAnd_nn (by omega) (by omega)]
  simp only [Int.toNat_natCast]
  have h1 : a ||| (a / 2 ^ k * 2 ^ k) = a := by
    apply Nat.eq_of_testBit_eq; intro i
    rw [Nat.testBit_or, high_bit]; cases a.testBit i <;> simp
  have h2 : a &&& (a / 2 ^ k * 2 ^ k) = a / 2 ^ k * 2 ^ k := by
    apply Nat.eq_of_testBit_eq; intro i
    rw [Nat.testBit_and, high_bit]; cases a.testBit i <;> simp
  rw [h1, h2]
  have := Nat.div_add_mod a (2 ^ k)
  have e2 : ((a : Int) % 2 ^ k) = ((a % 2 ^ k : Nat) : Int) := by push_cast; rfl
  rw [e2]
  rw [Nat.mul_comm] at this
  lia
theorem bits_le {a : Int} {k : Nat} (h : a.natAbs < 2 ^ k) : Builtin.Int.intBits a ≤ k := by
  unfold Builtin.Int.intBits
  split
  · lia
  · rename_i hz
    have hn : a.natAbs ≠ 0 := by simpa using hz
    have := (Nat.log2_lt hn).mpr h
    lia
theorem bits_lt {a : Int} {k : Nat} (h : Builtin.Int.intBits a ≤ k) : a.natAbs < 2 ^ k := by
  unfold Builtin.Int.intBits at h
  split at h
  · rename_i hz
    have : a = 0 := by simpa using hz
    subst this; exact Nat.pos_of_ne_zero (by simp)
  · rename_i hz
    have hn : a.natAbs ≠ 0 := by simpa using hz
    exact (Nat.log2_lt hn).mp (by lia)
theorem log2_of {a k : Nat} (h1 : 2 ^ k ≤ a) (h2 : a < 2 ^ (k + 1)) : a.log2 = k := by
  have hn : a ≠ 0 := by have := Nat.one_le_two_pow (n := k); lia
  have := (Nat.log2_lt hn).mpr h2
  have := (Nat.le_log2 hn).mpr h1
  lia
/-- no division by way of _pylong -/
theorem noPy {x y : Int} {n : Nat} (h1 : (2 : Int) ^ n ≤ y) (h2 : x.natAbs < 2 ^ (n + 4001)) : Builtin.divisionGoesByPylong x y = false := by
  unfold Builtin.divisionGoesByPylong
  have hp := Nat.one_le_two_pow (n := n)
  have hy : 2 ^ n ≤ y.natAbs := by
    have : ((2 ^ n : Nat) : Int) ≤ y := by push_cast; exact h1
    lia
  have hy0 : ¬ (y == 0) = true := by simp; lia
  have l1 : n ≤ y.natAbs.log2 := (Nat.le_log2 (by lia)).mpr hy
  have l2 : (if (x == 0) = true then 0 else x.natAbs.log2 / 30 + 1) ≤ (n + 4000) / 30 + 1 := by
    split
    · lia
    · rename_i hz
      have hn : x.natAbs ≠ 0 := by simpa using hz
      have := (Nat.log2_lt hn).mpr h2
      lia
  simp only [Bool.and_eq_false_iff, decide_eq_false_iff_not]
  right
  rw [if_neg hy0]
  lia
end Mine
namespace Mine
open PySem PySem.W PySem.Calls PyProof.Rows
noncomputable def IsL (o : Obj) (xs : Array Value) : Prop := o.cls = .type "list" ∧ ∃ n, o.data = .seq xs n
theorem IsL.mu {o : Obj} {xs : Array Value} (h : IsL o xs) : OkMu o := ⟨by rw [h.1]; nofun, by rw [h.1]; decide, fun ⟨_, _, _, e, _⟩ => by obtain ⟨n, q⟩ := h.2; rw [q] at e; cases e⟩
theorem IsL.cls {o : Obj} {xs : Array Value} (h : IsL o xs) : o.cls ≠ .none := h.mu.1
theorem isL_of {h : Heap} {a : Addr} {xs : Array Value} (x : h.IsList a xs) : ∃ o, h.get? a = some o ∧ IsL o xs := let ⟨o, a, b, c⟩ := x; ⟨o, a, b, c⟩
theorem IsL.list {h : Heap} {a : Addr} {o : Obj} {xs : Array Value} (x : IsL o xs) (e : h.get? a = some o) : h.IsList a xs := ⟨o, e, x.1, x.2⟩
theorem isL_lst {xs : Array Value} {n : Nat} : IsL (lstO xs n) xs := ⟨rfl, n, rfl⟩

/-- the state with one object hidden -/
noncomputable abbrev hid (s : Shared) (D : Addr) : Shared := { s with heap := hideAll s.heap [D] }
theorem hid_get {s : Shared} {D b : Addr} {o : Obj} (e : s.heap.get? b = some o) (h : b ≠ D) : (hid s D).heap.get? b = some o := hideAll_get _ e (by simpa using h)

section
variable {w : World} {T : Tops} {s₀ s s' : Shared} {env : Env} {m : Str → Option Value} {mus news : List (Addr × Obj)}
theorem St.turnK {a : Addr} {o o' : Obj} (Z : St w T s₀ env m ((a, o) :: mus) news s) (l : Later w T (hid s a) s') (ho' : s'.heap.get? a = some o') (hc : OkMu o') : St w T s₀ env m ((a, o') :: mus) news s' := by
  obtain ⟨e1, e2, e3, e4, e5⟩ := Z.mu _ (.head _)
  have ne : ∀ b o, s₀.heap.get? b = some o → b ≠ a := fun b o e q => by rw [q, e4] at e; cases e
  have gr0 : Grow T s₀.heap (hid s a).heap := fun b o e => by
    rcases Z.gr b o e with q | ⟨x, vs, more, q1, q2⟩
    · exact .inl (hid_get q (ne b o e))
    · exact .inr ⟨x, vs, more, q1, hid_get q2 (ne b o e)⟩
  have ⟨d1, d2⟩ := List.pairwise_cons.mp Z.md
  refine ⟨Z.g₀, l.g, gr0.trans l.gr, l.os.trans Z.os, l.gens.trans Z.gens, Z.low, ?_, fun x c e => ⟨?_, (Z.cel x c e).2⟩, Z.capart, fun p hp => ?_, List.pairwise_cons.mpr ⟨d1, d2⟩, fun p hp => ?_⟩
  · obtain ⟨ml, ⟨oL, es, ep, hL, r⟩, b⟩ := Z.ns
    exact ⟨ml, l.gr.ns ⟨oL, es, ep, hid_get hL (Ne.symm e3), r⟩, b⟩
  · obtain ⟨⟨oc, hoc, hd⟩, _⟩ := Z.cel x c e
    exact l.gr.cell ⟨oc, hid_get hoc (fun q => e5 x (by rw [e, q])), hd⟩
  · rcases List.mem_cons.mp hp with rfl | hp
    · exact ⟨ho', hc, e3, e4, e5⟩
    · obtain ⟨a1, a2, r⟩ := Z.mu p (.tail _ hp)
      exact ⟨l.gr.keep (hid_get a1 (Ne.symm (d1 p hp))) a2.1, a2, r⟩
  · obtain ⟨a1, a2, a3, a4, a5, a6⟩ := Z.nw p hp
    refine ⟨l.gr.keep (hid_get a1 (a6 _ (.head _))) a2, a2, a3, a4, a5, fun q hq => ?_⟩
    rcases List.mem_cons.mp hq with rfl | hq
    · exact a6 (a, o) (.head _)
    · exact a6 q (.tail _ hq)
theorem St.hideG {a : Addr} {o : Obj} (Z : St w T s₀ env m ((a, o) :: mus) news s) : G w T (hideAll s.heap [a]) := by
  obtain ⟨e1, e2, e3, e4, e5⟩ := Z.mu _ (.head _)
  exact (Z.write (h' := hideAll s.heap [a]) e1 e4 (.inl e2) fun b o hb e => hideAll_get _ e (by simpa using hb)).1

/-- the names of a nested def's call: its own and those of the closure -/
noncomputable def mClo (clos : List (Str × Value)) (binds : List (Str × Value)) : Str → Option Value := fun x => match clos.lookup x with
  | some v => some v
  | none => binds.reverse.lookup x
noncomputable def closOk (sc : Scope) (clos : List Str) : Bool := sc.names.all (fun x => x.2 != .cell) && clos.all fun x => sc.names.lookup x == some .free
/-- entering a nested def -/
theorem call_clo {A : Around} {Q : Value → Shared → Prop} {a : Addr} {o : Obj} {fd : FuncData} {body : List Stmt} {args : List Value} {binds : List (Str × Value)} (g : G w T s.heap) (room : A.depth < recursionLimit)
    (ho : s.heap.get? a = some o) (hd : o.data = .func fd) (hcd : s.heap.CodeRec fd.code fd.qualname) (hbody : fd.body = .stmts body) (hb : bindArgs fd ⟨args, []⟩ = pure binds)
    (hnc : (fd.scope.names.all fun x => x.2 != .cell) = true) (hloc : (binds.all fun x => fd.scope.names.lookup x.1 == some .local) = true)
    (h : ∀ h₁ t, h₁.Ns s.heap.objs.size (fun x => binds.reverse.lookup x) → (∀ b o, s.heap.get? b = some o → h₁.get? b = some o) →
      wpAny (model P31 w) (A.deeper (callEnv fd s.heap.objs.size a)) (execs body (callEnv fd s.heap.objs.size a)) (fun f s' => Q (match f with | .ret v => v | _ => .none) s') NoE { s with heap := h₁, toks := t })
    (hco : fd.scope.isCoroutine = false) (hgen : fd.scope.isGenerator = false) (hk : fd.scope.kind = .function) : wpAny (model P31 w) A (call (.ref a) args) Q NoE s := by
  refine @wpAny_call _ _ _ _ _ _ _ _ (codeAny_call_plain room ho hd g.nolim hcd hbody hb (fun x hx => by simpa using List.all_eq_true.mp hnc x hx) (fun x hx => beq_iff_eq.mp (List.all_eq_true.mp hloc x hx)) (fun h₁ hn hk => ?_) hco hgen hk)
  exact @wpAny_mono _ _ _ _ _ _ _ _ _ (h h₁ _ hn hk) (fun _ _ q => q) fun _ _ q => q.elim
theorem mem_lookup {α : Type} {l : List (Str × α)} {x : Str} {v : α} (h : l.lookup x = some v) : (x, v) ∈ l := lookup_mem' h
/-- the frame of a nested def that reads alone -/
theorem St.enterR {fd : FuncData} {a : Addr} {binds vals : List (Str × Value)} {h₁ : Heap} {t : Tok} (g : G w T s.heap) (hn : h₁.Ns s.heap.objs.size (fun x => binds.reverse.lookup x)) (hk : ∀ b o, s.heap.get? b = some o → h₁.get? b = some o)
    (hv : ∀ x c, fd.closure.lookup x = some c → ∃ v, vals.lookup x = some v ∧ s.heap.IsCell c (some v)) (hap : ∀ x y c, fd.closure.lookup x = some c → fd.closure.lookup y = some c → x = y)
    (hfree : ∀ x v, vals.lookup x = some v → fd.scope.names.lookup x ≠ some .local) :
    St w T s (callEnv fd s.heap.objs.size a) (mClo vals binds) [] [] { s with heap := h₁, toks := t } := by
  refine ⟨g, g.keeps hk, .of_keep hk, rfl, rfl, Nat.le_refl _, ⟨_, hn, fun x hx => ?_⟩, fun x c hc => ?_, hap, (fun _ hp => nomatch hp), .nil, (fun _ hp => nomatch hp)⟩
  · unfold mClo
    cases e : vals.lookup x with
    | none => rfl
    | some v => exact absurd hx (hfree x v e)
  · obtain ⟨v, e, oc, ho, hd⟩ := hv x c hc
    unfold mClo
    rw [e]
    exact ⟨⟨oc, hk _ _ ho, hd⟩, Nat.ne_of_lt (Heap.lt_size ho)⟩
/-- the frame of a nested def that writes one list of the outer frame's -/
theorem St.enterW {fd : FuncData} {a D : Addr} {o : Obj} {binds vals : List (Str × Value)} {h₁ : Heap} {t : Tok} (g : G w T (hideAll s.heap [D])) (hD : s.heap.get? D = some o) (hm : OkMu o) (hcell : ∀ v, o.data ≠ .cell v)
    (hn : h₁.Ns s.heap.objs.size (fun x => binds.reverse.lookup x)) (hk : ∀ b o, s.heap.get? b = some o → h₁.get? b = some o)
    (hv : ∀ x c, fd.closure.lookup x = some c → ∃ v, vals.lookup x = some v ∧ s.heap.IsCell c (some v)) (hap : ∀ x y c, fd.closure.lookup x = some c → fd.closure.lookup y = some c → x = y)
    (hfree : ∀ x v, vals.lookup x = some v → fd.scope.names.lookup x ≠ some .local) :
    St w T { s with heap := hideAll s.heap [D] } (callEnv fd s.heap.objs.size a) (mClo vals binds) [(D, o)] [] { s with heap := h₁, toks := t } := by
  have hk' : ∀ b o, (hideAll s.heap [D]).get? b = some o → h₁.get? b = some o := fun b o e => hk b o (of_hideAll _ e)
  refine ⟨g, g.keeps hk', .of_keep hk', rfl, rfl, Nat.le_of_eq (hideAll_size _ _), ⟨_, hn, fun x hx => ?_⟩, fun x c hc => ?_, hap, fun p hp => ?_, by simp, (fun _ hp => nomatch hp)⟩
  · unfold mClo
    cases e : vals.lookup x with
    | none => rfl
    | some v => exact absurd hx (hfree x v e)
  · obtain ⟨v, e, oc, ho, hd⟩ := hv x c hc
    unfold mClo
    rw [e]
    exact ⟨⟨oc, hk _ _ ho, hd⟩, Nat.ne_of_lt (Heap.lt_size ho)⟩
  · obtain rfl := List.mem_singleton.mp hp
    refine ⟨hk _ _ hD, hm, Nat.ne_of_lt (Heap.lt_size hD), hideAll_none _ (by simp), fun x e => ?_⟩
    obtain ⟨v, _, oc, ho, hd⟩ := hv x _ e
    obtain rfl : o = oc := by rw [hD] at ho; exact Option.some.inj ho
    exact hcell _ hd
end
section
variable {w : World} {T : Tops} {s₀ s : Shared} {env : Env} {m : Str → Option Value} {mus news : List (Addr × Obj)} {A : Around} {E : Value → Shared → Prop} {a b k : Nat} {t u : Tok} {Q : Value → Shared → Prop}
theorem cast_shr (a k : Nat) : ((a : Int)).fdiv (2 ^ k) = ((a / 2 ^ k : Nat) : Int) := by
  rw [Int.fdiv_eq_ediv_of_nonneg _ (Int.le_of_lt (Int.pow_pos (by decide)))]; push_cast; rfl
theorem n_add (Z : St w T s₀ env m mus news s) (h : ∀ t s, St w T s₀ env m mus news s → Q (.int ((a + b : Nat) : Int) t) s) : wpAny (model P31 w) A (binaryOp .Add (.int (a : Int) t) (.int (b : Int) u)) Q E s := @r_add _ _ _ _ _ _ _ _ _ _ _ _ _ _ _ Z fun t s Z => by have := h t s Z; push_cast at this; exact this
theorem n_sub (hle : b ≤ a) (Z : St w T s₀ env m mus news s) (h : ∀ t s, St w T s₀ env m mus news s → Q (.int ((a - b : Nat) : Int) t) s) : wpAny (model P31 w) A (binaryOp .Sub (.int (a : Int) t) (.int (b : Int) u)) Q E s := @r_sub _ _ _ _ _ _ _ _ _ _ _ _ _ _ _ Z fun t s Z => by have := h t s Z; rw [Int.natCast_sub hle] at this; exact this
theorem n_mul (hm : IntMulOk (a : Int) b) (Z : St w T s₀ env m mus news s) (h : ∀ t s, St w T s₀ env m mus news s → Q (.int ((a * b : Nat) : Int) t) s) : wpAny (model P31 w) A (binaryOp .Mult (.int (a : Int) t) (.int (b : Int) u)) Q E s := @r_mul _ _ _ _ _ _ _ _ _ _ _ _ _ _ _ Z hm fun t s Z => by have := h t s Z; push_cast at this; exact this
theorem n_shr (Z : St w T s₀ env m mus news s) (h : ∀ t s, St w T s₀ env m mus news s → Q (.int ((a / 2 ^ k : Nat) : Int) t) s) : wpAny (model P31 w) A (binaryOp .RShift (.int (a : Int) t) (.int (k : Int) u)) Q E s := @r_shr _ _ _ _ _ _ _ _ _ _ _ _ _ _ _ Z (by lia) fun t s Z => by rw [Int.toNat_natCast, cast_shr]; exact h t s Z
theorem n_half (Z : St w T s₀ env m mus news s) (h : ∀ t s, St w T s₀ env m mus news s → Q (.int ((a / 2 : Nat) : Int) t) s) : wpAny (model P31 w) A (binaryOp .RShift (.int (a : Int) t) (.int 1 u)) Q E s := @r_shr _ _ _ _ _ _ _ _ _ _ _ _ _ _ _ Z (by lia) fun t s Z => by
  have e := cast_shr a 1
  rw [show (1 : Int).toNat = 1 by rfl, e]; exact h t s Z
theorem n_shl (hsz : Builtin.Int.intBits (a : Int) + k ≤ 2 ^ 27) (Z : St w T s₀ env m mus news s) (h : ∀ t s, St w T s₀ env m mus news s → Q (.int ((a * 2 ^ k : Nat) : Int) t) s) : wpAny (model P31 w) A (binaryOp .LShift (.int (a : Int) t) (.int (k : Int) u)) Q E s :=
  @r_shl _ _ _ _ _ _ _ _ _ _ _ _ _ _ _ Z (by (clear hsz; omega)) (by lia) fun t s Z => by have := h t s Z; push_cast at this; exact this
theorem n_xor (Z : St w T s₀ env m mus news s) (h : ∀ t s, St w T s₀ env m mus news s → Q (.int ((a % 2 ^ k : Nat) : Int) t) s) : wpAny (model P31 w) A (binaryOp .BitXor (.int (a : Int) t) (.int ((a / 2 ^ k * 2 ^ k : Nat) : Int) u)) Q E s :=
  @r_xor _ _ _ _ _ _ _ _ _ _ _ _ _ _ _ Z fun t s Z => by
    have e := bitXor_high (x := (a : Int)) k (by omega)
    have h1 := h t s Z
    push_cast at h1 ⊢
    rw [e]; exact h1
theorem bitsNat {a k : Nat} (h : a < 2 ^ k) : Builtin.Int.intBits (a : Int) ≤ k := bits_le (by simpa using h)
theorem smallMul {a b : Nat} (h : a < 2 ^ 64 ∨ b < 2 ^ 64) : IntMulOk (a : Int) b := h.elim (fun h => .of_left (bitsNat h)) fun h => .of_right (bitsNat h)
end
end Mine
namespace Mine
open PySem PySem.W PySem.Calls PyProof.Rows
section
variable {w : World} {T : Tops} {s₀ s : Shared} {env : Env} {m : Str → Option Value} {mus news : List (Addr × Obj)} {A : Around}
/-- the part of the heap below an address -/
noncomputable def below (h : Heap) (L : Addr) : Heap := { h with objs := h.objs.take L }
theorem below_get {h : Heap} {L b : Addr} {o : Obj} : (below h L).get? b = some o ↔ b < L ∧ h.get? b = some o := by
  unfold below Heap.get?
  show (match (h.objs.extract 0 L)[b]? with | some ⟨_, _, .freed, _⟩ => none | o => o) = some o ↔ _
  rw [Array.getElem?_extract, Nat.sub_zero, Nat.zero_add]
  by_cases hb : b < L
  · by_cases hz : b < h.objs.size
    · rw [if_pos (Nat.lt_min.mpr ⟨hb, hz⟩)]; simp only [hb, true_and]; exact Iff.rfl
    · rw [if_neg (fun q => hz (Nat.lt_min.mp q).2), Array.getElem?_eq_none (Nat.le_of_not_lt hz)]; simp
  · rw [if_neg (fun q => hb (Nat.lt_min.mp q).1)]; simp [hb]
noncomputable def above (h : Heap) (L : Addr) : List (Addr × Obj) := (List.range h.objs.size).filterMap fun b => if L < b then (h.get? b).map (b, ·) else none
theorem mem_above {h : Heap} {L b : Addr} {o : Obj} : (b, o) ∈ above h L ↔ L < b ∧ h.get? b = some o := by
  unfold above
  rw [List.mem_filterMap]
  constructor
  · rintro ⟨x, hx, e⟩
    by_cases c : L < x
    · rw [if_pos c] at e
      cases q : h.get? x with
      | none => rw [q] at e; cases e
      | some o' => rw [q] at e; cases e; exact ⟨c, q⟩
    · rw [if_neg c] at e; cases e
  · rintro ⟨a, e⟩
    exact ⟨b, List.mem_range.mpr (Heap.lt_size e), by rw [if_pos a, e]; rfl⟩
/-- the library's own words for a frame -/
theorem St.fr (Z : St w T s₀ env m mus news s) : ∃ hb X ml, Fr hb env.locals s.heap ml ∧ News hb env.locals s.heap X ∧
    ∀ h' t news', Fr hb env.locals h' ml → News hb env.locals h' (news' ++ X) → (∀ p ∈ news', s.heap.get? p.1 = none ∧ p.2.cls ≠ .none) → St w T s₀ env m mus (news' ++ news) { s with heap := h', toks := t } := by
  obtain ⟨ml, hns, hml⟩ := Z.ns
  have hL := hns.lt
  obtain ⟨oL, es, ep, hoL, hLd, hLr⟩ := id hns
  refine ⟨below s.heap env.locals, above s.heap env.locals, ml, ⟨hns, fun b o e => (below_get.mp e).2, ?_⟩, fun p hp => ?_, fun h' t news' F N hn => ?_⟩
  · show (s.heap.objs.extract 0 env.locals).size ≤ _
    rw [Array.size_extract]; lia
  · obtain ⟨b, o⟩ := p
    obtain ⟨a, e⟩ := mem_above.mp hp
    refine ⟨e, Nat.ne_of_gt a, ?_⟩
    cases q : (below s.heap env.locals).get? b with
    | none => rfl
    | some o' => exact absurd (below_get.mp q).1 (Nat.not_lt.mpr (Nat.le_of_lt a))
  have kp : ∀ b o, b ≠ env.locals → s.heap.get? b = some o → h'.get? b = some o := fun b o hb e => by
    rcases Nat.lt_or_gt_of_ne hb with q | q
    · exact F.keep b o (below_get.mpr ⟨q, e⟩)
    · exact (N (b, o) (List.mem_append.mpr (.inr (mem_above.mpr ⟨q, e⟩)))).1
  have hlo : s₀.heap.get? env.locals = none := Heap.get?_none_of_le Z.low
  obtain ⟨g, gr, _⟩ := Z.write hoL hlo (.inr fun vs q => by rw [hLd] at q; cases q) kp
  have Y : St w T s₀ env m mus news { s with heap := h', toks := t } := by
    refine ⟨Z.g₀, g, gr, Z.os, Z.gens, Z.low, ⟨ml, F.ns, hml⟩, fun y c e => ⟨?_, (Z.cel y c e).2⟩, Z.capart, fun p hp => ?_, Z.md, fun p hp => ?_⟩
    · obtain ⟨⟨oc, hoc, hd⟩, hne⟩ := Z.cel y c e
      exact ⟨oc, kp _ _ hne hoc, hd⟩
    · obtain ⟨a1, a2, a3, r⟩ := Z.mu p hp
      exact ⟨kp _ _ a3 a1, a2, a3, r⟩
    · obtain ⟨a1, a2, a3, r⟩ := Z.nw p hp
      exact ⟨kp _ _ a3 a1, a2, a3, r⟩
  exact ⟨Y.g₀, Y.g, Y.gr, Y.os, Y.gens, Y.low, Y.ns, Y.cel, Y.capart, Y.mu, Y.md, fun p hp => by
    rcases List.mem_append.mp hp with hp | hp
    · obtain ⟨a, b⟩ := hn p hp
      obtain ⟨f1, f2, f3, f4, _⟩ := Z.fresh a
      exact ⟨(N p (List.mem_append.mpr (.inl hp))).1, b, f1, f2, f3, f4⟩
    · exact Y.nw p hp⟩

theorem dat_ne {h : Heap} {a b : Addr} {x y : Obj} (e : h.get? a = some x) (e' : h.get? b = some y) (hne : x.data ≠ y.data) : a ≠ b := fun q => by
  rw [q, e'] at e; rw [Option.some.inj e] at hne; exact hne rfl
theorem cls_ne {h : Heap} {a b : Addr} {x y : Obj} (e : h.get? a = some x) (e' : h.get? b = some y) (hne : x.cls ≠ y.cls) : a ≠ b := fun q => by
  rw [q, e'] at e; rw [Option.some.inj e] at hne; exact hne rfl
theorem codeOk_keep {h h' : Heap} {P c : Addr} {q : Str} {ps : Array Value} (x : CodeOk h c q) (hP : h.get? P = some (tabObj ps)) (hps : ∀ q t, ps[1]? ≠ some (.str q t)) (k : ∀ b o, b ≠ P → h.get? b = some o → h'.get? b = some o) : CodeOk h' c q := by
  obtain ⟨o, vs, t, e, d, r⟩ := x
  refine ⟨o, vs, t, k _ _ (fun z => ?_) e, d, r⟩
  rw [z, hP] at e
  obtain rfl := Option.some.inj e
  have d' : PySem.Data.fields ps = .fields vs := d
  injection d' with d'
  subst d'
  exact hps _ _ r
theorem tab_ps {h : Heap} {c P : Addr} {l k : Nat} {q : Str} (x : Tab h c P l k q) : ∃ ps : Array Value, h.get? P = some (tabObj ps) ∧ ∀ q t, ps[1]? ≠ some (.str q t) := by
  obtain ⟨_, ps, e, r⟩ := x
  refine ⟨ps, e, fun q t => ?_⟩
  rcases r with rfl | ⟨c', rfl, _⟩
  · simp
  · simp [rawInt]
theorem Tab.keepBut {h h' : Heap} {c P P' : Addr} {l k : Nat} {q : Str} {ps' : Array Value} (x : Tab h c P l k q) (hne : P ≠ P') (hP : h.get? P' = some (tabObj ps')) (hps : ∀ q t, ps'[1]? ≠ some (.str q t)) (kp : ∀ b o, b ≠ P' → h.get? b = some o → h'.get? b = some o) : Tab h' c P l k q := by
  obtain ⟨⟨o, vs, file, tf, flags, tg, inF, text, tt, e, hc, hd, r⟩, ps, e2, r2⟩ := x
  exact ⟨⟨o, vs, file, tf, flags, tg, inF, text, tt, kp _ _ (cls_ne e hP (by rw [hc]; nofun)) e, hc, hd, r⟩, ps, kp _ _ hne e2, r2.imp id fun ⟨c', q1, q2⟩ => ⟨c', q1, codeOk_keep q2 hP hps kp⟩⟩

/-- a def inside a def -/
theorem r_nest {c P : Addr} {q name : Str} {params : Arguments} {body : List Stmt} {scope : Scope} {pos : Pos} {clos : List (Str × Addr)} {Q : Value → Shared → Prop} (Z : St w T s₀ env m mus news s)
    (hge : env.globals = mainGlobals) (hcode : env.code = .ref c) (hTP : P = T.p1 ∨ P = T.p2) (hT : Tab s.heap c P pos.line pos.col q)
    (hG : ∀ h', Grow T s.heap h' → (∀ b o, b ≠ P → s.heap.get? b = some o → h'.get? b = some o) → Tab h' c P pos.line pos.col q → G w T h') (hcl : closureFor scope env = pure clos)
    (h : ∀ F c' doc pm ct s, St w T s₀ env m mus ((F, { cls := .type "function", data := .func (fnX name q params body scope clos .none .none doc pm none (.ref c') ct) }) :: news) s → CodeOk s.heap c' q → Q (.ref F) s) :
    wpAny (model P31 w) A (makeFunction name q params (.stmts body) scope env [] [] [] pos pos.line) Q NoE s := by
  obtain ⟨C, ps, hP, hps⟩ := id hT
  obtain ⟨ps', hP', hstr⟩ := tab_ps hT
  obtain rfl : ps = ps' := by rw [hP] at hP'; have := congrArg Obj.data (Option.some.inj hP'); simpa using this
  obtain ⟨og, esg, epg, hog, hogd, _⟩ := id Z.g.ns
  have hgP : mainGlobals ≠ P := dat_ne hog hP (by rw [hogd]; nofun)
  obtain ⟨bm, ob, b1, b2, b3, b4, b5, b6⟩ := Z.g.bmain
  have hB : s.heap.BuiltinsAt T.mg P := ⟨bm, ob, b1, b2, dat_ne b3 hog (by rw [hogd, b6]; nofun), cls_ne b3 hP (by rw [b4]; nofun), b3, b4, b5, b6⟩
  rcases hps with rfl | ⟨c', rfl, hc'⟩
  · refine makeFunction_K (mg := T.mg) (clos := clos) hcl hge Z.g.ns hcode C hP (by trivial) (by rfl) hgP hB fun c' ctv doc h' tk hx _ _ hrec hP2 => ?_
    have kp : ∀ b o, b ≠ P → s.heap.get? b = some o → (h'.push (fnMade name q params body scope clos doc ((T.mg "__name__").getD .none) c' ctv)).get? b = some o := fun b o hb e => Heap.get?_push_of_some _ (hx b o hb e)
    have hPn := Heap.get?_push_of_some (fnMade name q params body scope clos doc ((T.mg "__name__").getD .none) c' ctv) hP2
    have gr : Grow T s.heap (h'.push (fnMade name q params body scope clos doc ((T.mg "__name__").getD .none) c' ctv)) := fun b o e => by
      by_cases hb : b = P
      · subst hb
        rw [hP] at e
        obtain rfl := Option.some.inj e
        exact .inr ⟨hTP, _, _, rfl, hPn⟩
      · exact .inl (kp b o hb e)
    have hc2 : CodeOk (h'.push (fnMade name q params body scope clos doc ((T.mg "__name__").getD .none) c' ctv)) c' q := by
      obtain ⟨_, o, vs, t, e1, e2, e3, e4⟩ := hrec
      cases e1
      exact ⟨o, vs, t, Heap.get?_push_of_some _ e2, e3, e4⟩
    have t' : Tab (h'.push (fnMade name q params body scope clos doc ((T.mg "__name__").getD .none) c' ctv)) c P pos.line pos.col q := ⟨CodeHd.grow C gr, _, hPn, .inr ⟨c', by simp, hc2⟩⟩
    have hfree : s.heap.get? h'.objs.size = none := by
      cases e : s.heap.get? h'.objs.size with
      | none => rfl
      | some o =>
        by_cases hb : h'.objs.size = P
        · exact absurd (Heap.lt_size hP2) (by rw [← hb]; exact Nat.lt_irrefl _)
        · exact absurd (Heap.lt_size (hx _ _ hb e)) (Nat.lt_irrefl _)
    exact h _ c' doc _ ctv _ (Z.join1 (s' := { s with heap := h'.push (fnMade name q params body scope clos doc ((T.mg "__name__").getD .none) c' ctv), toks := tk }) ⟨gr, hG _ gr kp t', rfl, rfl⟩ ⟨Heap.get?_push_size _ rfl, nofun, hfree⟩) hc2
  · refine makeFunction_hit (mg := T.mg) (clos := clos) (cv := .ref c') hcl hge Z.g.ns hcode C hP (by trivial) (by simp [codeAmong, rawInt]) hB fun ctv doc h' tk hk hsz => ?_
    have hfree : s.heap.get? h'.objs.size = none := by
      cases e : s.heap.get? h'.objs.size with
      | none => rfl
      | some o => exact absurd (Heap.lt_size (hk _ _ e)) (Nat.lt_irrefl _)
    have Z' := Z.join1 (a := h'.objs.size) (o := { cls := .type "function", data := .func (fnX name q params body scope clos .none .none doc ((T.mg "__name__").getD .none) none (.ref c') ctv) }) (.of_keep Z.g (t := tk) fun b o e => Heap.get?_push_of_some _ (hk b o e)) ⟨Heap.get?_push_size _ rfl, nofun, hfree⟩
    exact h _ c' doc _ ctv _ Z' (hc'.keeps fun b o e => Heap.get?_push_of_some _ (hk b o e))
section
variable {x : Str} {v : Value}
theorem stcK {c : Addr} (Z : St w T s₀ env m mus news s) {Q : Unit → Shared → Prop} (hc : env.cells.lookup x = some c) (hlo : s₀.heap.objs.size ≤ c) (h : ∀ s', St w T s₀ env (upd m x v) mus news s' → (∀ b o, b ≠ c → s.heap.get? b = some o → s'.heap.get? b = some o) → Q () s')
    (hk : env.scope.kind = .function := by rfl) (hl : env.kindOf x = some .cell := by rfl) : wpAny (model P31 w) A (storeName env x v) Q NoE s := by
  obtain ⟨hic, hcl⟩ := Z.cel x c hc
  refine @wpAny_storeName_cell _ _ _ _ _ _ _ _ _ _ hk hl hc hic (fun h' hn hs => h _ ?_ (SameBut.kp hs))
  obtain ⟨oc, hoc, hocd⟩ := id hic
  obtain ⟨g, gr, kp⟩ := Z.write hoc (Heap.get?_none_of_le hlo) (.inr fun vs q => by rw [hocd] at q; cases q) (SameBut.kp hs)
  refine ⟨Z.g₀, g, gr, Z.os, Z.gens, Z.low, ?_, fun y c' e => ⟨?_, (Z.cel y c' e).2⟩, Z.capart, fun p hp => ?_, Z.md, fun p hp => ?_⟩
  · obtain ⟨ml, ⟨oL, es, ep, hL, r⟩, b⟩ := Z.ns
    refine ⟨ml, ⟨oL, es, ep, kp _ _ (Ne.symm hcl) hL, r⟩, fun y hy => ?_⟩
    have : y ≠ x := fun q => by rw [q, hl] at hy; cases hy
    unfold upd; rw [if_neg this]; exact b y hy
  · unfold upd
    by_cases q : y = x
    · rw [if_pos q]
      obtain rfl : c' = c := by rw [q, hc] at e; exact (Option.some.inj e).symm
      exact hn
    · rw [if_neg q]
      obtain ⟨⟨o2, ho2, hd2⟩, _⟩ := Z.cel y c' e
      exact ⟨o2, kp _ _ (fun z => q (Z.capart y x c' e (z ▸ hc))) ho2, hd2⟩
  · obtain ⟨a1, a2, a3, a4, a5⟩ := Z.mu p hp
    exact ⟨kp _ _ (fun q => a5 x (q ▸ hc)) a1, a2, a3, a4, a5⟩
  · obtain ⟨a1, a2, a3, a4, a5, a6⟩ := Z.nw p hp
    exact ⟨kp _ _ (fun q => a5 x (q ▸ hc)) a1, a2, a3, a4, a5, a6⟩
end
theorem CodeOk.keepCell {h h' : Heap} {c c' : Addr} {q : Str} {v : Option Value} (x : CodeOk h c' q) (y : h.IsCell c v) (k : ∀ b o, b ≠ c → h.get? b = some o → h'.get? b = some o) : CodeOk h' c' q := by
  obtain ⟨o, vs, t, e, d, r⟩ := x
  obtain ⟨oc, e', d'⟩ := y
  exact ⟨o, vs, t, k _ _ (dat_ne e e' (by rw [d, d']; nofun)) e, d, r⟩
theorem St.addN {s' : Shared} {a : Addr} {o : Obj} (Y : St w T s₀ env m mus news s') (Z : St w T s₀ env m mus news s) (ha : s.heap.get? a = none) (ho : s'.heap.get? a = some o) (hc : o.cls ≠ .none) : St w T s₀ env m mus ((a, o) :: news) s' := by
  obtain ⟨f1, f2, f3, f4, _⟩ := Z.fresh ha
  exact ⟨Y.g₀, Y.g, Y.gr, Y.os, Y.gens, Y.low, Y.ns, Y.cel, Y.capart, Y.mu, Y.md, fun p hp => by
    rcases List.mem_cons.mp hp with rfl | hp
    · exact ⟨ho, hc, f1, f2, f3, f4⟩
    · exact Y.nw p hp⟩
theorem St.addM {s' : Shared} {a : Addr} {o : Obj} (Y : St w T s₀ env m mus news s') (Z : St w T s₀ env m mus news s) (ha : s.heap.get? a = none) (ho : s'.heap.get? a = some o) (hc : OkMu o) : St w T s₀ env m ((a, o) :: mus) news s' := by
  obtain ⟨f1, f2, f3, f4, f5⟩ := Z.fresh ha
  exact ⟨Y.g₀, Y.g, Y.gr, Y.os, Y.gens, Y.low, Y.ns, Y.cel, Y.capart, fun p hp => by
    rcases List.mem_cons.mp hp with rfl | hp
    · exact ⟨ho, hc, f1, f2, f3⟩
    · exact Y.mu p hp, List.pairwise_cons.mpr ⟨fun p hp => f4 p hp, Y.md⟩, fun p hp => by
      obtain ⟨a1, a2, a3, a4, a5, a6⟩ := Y.nw p hp
      refine ⟨a1, a2, a3, a4, a5, fun q hq => ?_⟩
      rcases List.mem_cons.mp hq with rfl | hq
      · exact fun e => f5 p hp e.symm
      · exact a6 q hq⟩
theorem fresh_size {s : Shared} : s.heap.get? s.heap.objs.size = none := Heap.get?_none_of_le (Nat.le_refl _)
theorem r_listmul {E : Value → Shared → Prop} {Q : Value → Shared → Prop} {l : Addr} {vs : List Value} {k : Nat} {u : Tok} {ds : List PyData} (Z : St w T s₀ env m mus news s) (hl : s.heap.IsList l vs.toArray) (hc : CarriedAll vs ds) (hk : k < 2 ^ 63) (hsz : vs.length * k ≤ 2 ^ 24)
    (h : ∀ d o s, St w T s₀ env m ((d, o) :: mus) news s → IsL o (List.replicate k vs).flatten.toArray → Q (.ref d) s) : wpAny (model P31 w) A (binaryOp .Mult (.ref l) (.int (k : Int) u)) Q E s := by
  obtain ⟨hb, X, ml, F, N, K⟩ := Z.fr
  refine @mul_list_is _ _ _ _ _ _ _ _ _ _ _ _ _ _ _ F N hl hc (by lia) (by lia) (by simpa using hsz) fun h' F' N' _ hi _ => ?_
  obtain ⟨o, ho, hlo⟩ := isL_of hi
  rw [Int.toNat_natCast] at hlo
  have Y := K h' s.toks [] F' N' (fun _ hp => absurd hp List.not_mem_nil)
  exact h _ o _ (Y.addM Z fresh_size ho hlo.mu) hlo
theorem r_rep {E : Value → Shared → Prop} {Q : Value → Shared → Prop} {l : Addr} {v : Value} {k n : Nat} {u : Tok} {d : PyData} (Z : St w T s₀ env m mus news s) (hl : s.heap.get? l = some (lstO #[v] n)) (hc : Carried v d) (hsz : k ≤ 2 ^ 24)
    (h : ∀ d o xs s, St w T s₀ env m ((d, o) :: mus) news s → IsL o xs → xs = (List.replicate k v).toArray → Q (.ref d) s) : wpAny (model P31 w) A (binaryOp .Mult (.ref l) (.int (k : Int) u)) Q E s :=
  r_listmul (vs := [v]) (ds := [d]) Z (IsL.list isL_lst hl) (.cons hc .nil) (by omega) (by simpa using hsz) fun d o s Z hlo => h d o _ s Z hlo (by simp)
theorem r_newlist {E : Value → Shared → Prop} {Q : Value → Shared → Prop} {vs : List Value} (Z : St w T s₀ env m mus news s) (hsz : vs.length ≤ 2 ^ 20) (h : ∀ d s, St w T s₀ env m mus ((d, lstO vs.toArray 0) :: news) s → Q (.ref d) s) : wpAny (model P31 w) A (newList vs) Q E s :=
  @wpAny_newList _ _ _ _ _ _ (h _ _ (Z.push (lstO vs.toArray 0) (t := s.toks))) (Nat.le_trans hsz (by decide))
theorem r_newlistM {E : Value → Shared → Prop} {Q : Value → Shared → Prop} {vs : List Value} (Z : St w T s₀ env m mus news s) (hsz : vs.length ≤ 2 ^ 20) (h : ∀ d s, St w T s₀ env m ((d, lstO vs.toArray 0) :: mus) news s → Q (.ref d) s) : wpAny (model P31 w) A (newList vs) Q E s :=
  @wpAny_newList _ _ _ _ _ _ (h _ _ (Z.pushM (lstO vs.toArray 0) isL_lst.mu (t := s.toks))) (Nat.le_trans hsz (by decide))
theorem r_lenL {E : Value → Shared → Prop} {Q : Value → Shared → Prop} {l : Addr} {xs : Array Value} (Z : St w T s₀ env m mus news s) (hl : s.heap.IsList l xs) (hsz : xs.size ≤ 2 ^ 40) (h : ∀ t s, St w T s₀ env m mus news s → Q (.int (xs.size : Int) t) s) :
    wpAny (model P31 w) A (call (.builtin "len") [.ref l]) Q E s := @call_len_list _ _ _ _ _ _ _ _ hl (by omega) (h _ _ Z.tok)
theorem n_fdiv {E : Value → Shared → Prop} {Q : Value → Shared → Prop} {a b : Nat} {t u : Tok} (Z : St w T s₀ env m mus news s) (hb : 0 < b) (hs : b < 2 ^ 30) (h : ∀ t s, St w T s₀ env m mus news s → Q (.int ((a / b : Nat) : Int) t) s) : wpAny (model P31 w) A (binaryOp .FloorDiv (.int (a : Int) t) (.int (b : Int) u)) Q E s :=
  @r_fdiv _ _ _ _ _ _ _ _ _ _ _ _ _ _ _ Z (by lia) (PyProof.noPylong_small (by omega)) fun t s Z => by
    have := h t s Z
    rw [Int.fdiv_eq_ediv_of_nonneg _ (by lia)]
    push_cast at this; exact this
end
end Mine
namespace Mine
open PySem PySem.W PySem.Calls PyProof.Rows
section
variable {w : World} {T : Tops} {s₀ s : Shared} {env : Env} {m : Str → Option Value} {mus news : List (Addr × Obj)} {A : Around}
/-- an object that turns is lost sight of -/
theorem St.lose {a : Addr} {o : Obj} (Z : St w T s₀ env m ((a, o) :: mus) news s) {h' : Heap} (hs : ∀ b o, b ≠ a → s.heap.get? b = some o → h'.get? b = some o) {t : Tok} :
    St w T s₀ env m mus news { s with heap := h', toks := t } := by
  obtain ⟨e1, e2, e3, e4, e5⟩ := Z.mu _ (.head _)
  obtain ⟨g, gr, kp⟩ := Z.write e1 e4 (.inl e2) hs
  have ⟨d1, d2⟩ := List.pairwise_cons.mp Z.md
  refine ⟨Z.g₀, g, gr, Z.os, Z.gens, Z.low, ?_, fun x c e => ⟨?_, (Z.cel x c e).2⟩, Z.capart, fun p hp => ?_, d2, fun p hp => ?_⟩
  · obtain ⟨ml, ⟨oL, es, ep, hL, r⟩, b⟩ := Z.ns
    exact ⟨ml, ⟨oL, es, ep, kp _ _ (Ne.symm e3) hL, r⟩, b⟩
  · obtain ⟨⟨oc, hoc, hd⟩, _⟩ := Z.cel x c e
    exact ⟨oc, kp _ _ (fun q => e5 x (by rw [e, q])) hoc, hd⟩
  · obtain ⟨a1, r⟩ := Z.mu p (.tail _ hp)
    exact ⟨kp _ _ (Ne.symm (d1 p hp)) a1, r⟩
  · obtain ⟨a1, a2, a3, a4, a5, a6⟩ := Z.nw p hp
    exact ⟨kp _ _ (a6 _ (.head _)) a1, a2, a3, a4, a5, fun q hq => a6 q (.tail _ hq)⟩

/-- a for loop over anything that walks -/
theorem r_forW {Q : Flow → Shared → Prop} {target : Expr} {body : List Stmt} {I : Addr} {oI : Obj} {fp : List Addr} {n : Nat} {P : Nat → Value → Prop} {S : Nat → Heap → Prop} (W : Walks P31 w A I fp [I] n P S)
    (hok : ∀ i h, S i h → ∃ o, h.get? I = some o ∧ OkMu o) (K : Nat → (Str → Option Value) → List (Addr × Obj) → List (Addr × Obj) → Prop)
    (hfp : ∀ b ∈ fp, b = I ∨ ∃ o, ∀ i m mus news oI s, K i m mus news → St w T s₀ env m ((I, oI) :: mus) news s → s.heap.get? b = some o)
    (Z : St w T s₀ env m ((I, oI) :: mus) news s) (hS : S 0 s.heap) (hK : K 0 m mus news)
    (turn : ∀ i m mus news oI v s, i < n → K i m mus news → P i v → St w T s₀ env m ((I, oI) :: mus) news s →
      wpAny (model P31 w) A (assign target env v) (fun _ s => wpAny (model P31 w) A (execs body env) (fun f s => match f with
          | .next | .cont => ∃ m' mus' news', St w T s₀ env m' ((I, oI) :: mus') news' s ∧ K (i + 1) m' mus' news'
          | .brk => Q .next s
          | .ret v => Q (.ret v) s) NoE s) NoE s)
    (fin : ∀ m mus news s, K n m mus news → St w T s₀ env m mus news s → Q .next s) (ht : ∀ v, letOwnedTupleGo target (.ref I) v = pure () := by intro _; rfl) :
    codeAny (model P31 w) A (.forLoop target (.ref I) body [] env) (fun r s' => match r with | .ok f => Q f s' | .error e => cameBackBy (model P31 w) A env NoE e s') s := by
  refine r_forLoop (fun j s => ∃ i m mus news oI, j = n - i ∧ i ≤ n ∧ St w T s₀ env m ((I, oI) :: mus) news s ∧ S i s.heap ∧ K i m mus news) (fun j s hI => ?_) n ⟨0, m, mus, news, oI, rfl, Nat.zero_le _, Z, hS, hK⟩ ht
  obtain ⟨i, m, mus, news, oI, rfl, hi, Z, hS, hK⟩ := hI
  rcases Nat.lt_or_eq_of_le hi with hlt | rfl
  · refine W.item i s _ _ hlt hS fun v h' tk hP hS' hkp => ?_
    obtain ⟨o', ho', hok'⟩ := hok _ _ hS'
    have Z' := Z.turn (t := tk) (fun b o hb e => hkp b o (by simpa using hb) e) ho' hok'
    refine @wpAny_mono _ _ _ _ _ _ _ _ _ (turn i m mus news o' v _ hlt hK hP Z') (fun _ s1 h => @wpAny_mono _ _ _ _ _ _ _ _ _ h (fun f s2 h => ?_) fun _ _ h => h) fun _ _ h => h
    have key : ∀ {m' mus' news'}, St w T s₀ env m' ((I, o') :: mus') news' s2 → K (i + 1) m' mus' news' → S (i + 1) s2.heap := fun {m' mus' news'} Z2 hK2 => by
      refine W.frame _ _ _ hS' fun b hb o e => ?_
      rcases hfp b hb with rfl | ⟨o1, q⟩
      · have e : h'.get? b = some o := e
        rw [ho'] at e
        obtain rfl := Option.some.inj e
        exact Z2.getM (.head _)
      · have q1 := q _ _ _ _ _ _ hK Z'
        have q1 : h'.get? b = some o1 := q1
        rw [q1] at e
        obtain rfl := Option.some.inj e
        exact q _ _ _ _ _ _ hK2 Z2
    cases f with
    | next => obtain ⟨m', mus', news', Z2, hK2⟩ := h; exact ⟨_, by omega, i + 1, m', mus', news', o', rfl, hlt, Z2, key Z2 hK2, hK2⟩
    | cont => obtain ⟨m', mus', news', Z2, hK2⟩ := h; exact ⟨_, by omega, i + 1, m', mus', news', o', rfl, hlt, Z2, key Z2 hK2, hK2⟩
    | brk => exact h
    | ret v => exact h
  · refine W.done s _ _ hS fun h' tk hkp => ?_
    exact fin _ _ _ _ hK (Z.lose (t := tk) fun b o hb e => hkp b o (by simpa using hb) e)
theorem iter_mu {T : String} {a : Value} {i : Int} {t : Tok} (h : (Value.type T ≠ .type "code") := by decide) : OkMu { cls := .type T, data := .fields #[a, .int i t] } := ⟨nofun, h, fun ⟨vs, q, t, e, e'⟩ => by
  have e : PySem.Data.fields _ = .fields vs := e
  injection e with e
  subst e
  simp at e'⟩
theorem fields_mu {o : Obj} {T : String} {a : Value} {i : Int} {t : Tok} {r : List Value} (hc : o.cls = .type T) (hd : o.data = .fields (a :: .int i t :: r).toArray) (h : (Value.type T ≠ .type "code") := by decide) : OkMu o := ⟨by rw [hc]; nofun, by rw [hc]; exact h, fun ⟨vs, q, t, e, e'⟩ => by
  rw [hd] at e
  injection e with e
  subst e
  simp at e'⟩
theorem r_iterList {Q : Flow → Shared → Prop} {target : Expr} {body : List Stmt} {l : Addr} {lo : Obj} {xs : Array Value} (Z : St w T s₀ env m mus news s) (hh : A.handled = none) (hl : s.heap.get? l = some lo) (hlo : IsL lo xs)
    (K : Nat → (Str → Option Value) → List (Addr × Obj) → List (Addr × Obj) → Prop) (hfix : ∀ i m mus news s, K i m mus news → St w T s₀ env m mus news s → s.heap.get? l = some lo) (hK : K 0 m mus news)
    (turn : ∀ I i m mus news oI v s, i < xs.size → K i m mus news → xs[i]? = some v → St w T s₀ env m ((I, oI) :: mus) news s →
      wpAny (model P31 w) A (assign target env v) (fun _ s => wpAny (model P31 w) A (execs body env) (fun f s => match f with
          | .next | .cont => ∃ m' mus' news', St w T s₀ env m' ((I, oI) :: mus') news' s ∧ K (i + 1) m' mus' news'
          | .brk => Q .next s
          | .ret v => Q (.ret v) s) NoE s) NoE s)
    (fin : ∀ m mus news s, K xs.size m mus news → St w T s₀ env m mus news s → Q .next s) (ht : ∀ I v, letOwnedTupleGo target (.ref I) v = pure () := by intro _ _; rfl) :
    wpAny (model P31 w) A (pyIter (.ref l)) (fun it s => codeAny (model P31 w) A (.forLoop target it body [] env) (fun r s' => match r with | .ok f => Q f s' | .error e => cameBackBy (model P31 w) A env NoE e s') s) NoE s := by
  refine @wpAny_pyIter_list _ _ _ _ _ _ _ _ (hlo.list hl) ?_
  have hne : l ≠ s.heap.objs.size := Nat.ne_of_lt (Heap.lt_size hl)
  have Z' := Z.pushM { cls := .type "list_iterator", data := .fields #[.ref l, .int 0 0] } iter_mu (t := s.toks)
  refine r_forW (Walks.list hh s.heap.objs.size l hne xs) (fun i h ⟨⟨o, e, c, d⟩, _⟩ => ⟨o, e, fields_mu (r := []) c d⟩) K (fun b hb => ?_) Z' ⟨⟨_, Heap.get?_push_size _ rfl, rfl, rfl⟩, (hlo.list hl).push _⟩ hK (fun i m mus news oI v s h1 h2 h3 h4 => turn _ i m mus news oI v s h1 h2 h3 h4) fin (ht _)
  simp only [List.mem_cons, List.not_mem_nil, or_false] at hb
  rcases hb with rfl | rfl
  · exact .inl rfl
  · exact .inr ⟨lo, fun i m mus news oI s h1 h2 => hfix i m _ _ _ h1 h2.dropM⟩
theorem r_iterTup {Q : Flow → Shared → Prop} {target : Expr} {body : List Stmt} {l : Addr} {xs : Array Value} (Z : St w T s₀ env m mus news s) (hh : A.handled = none) (hl : s.heap.get? l = some (tupO xs))
    (K : Nat → (Str → Option Value) → List (Addr × Obj) → List (Addr × Obj) → Prop) (hfix : ∀ i m mus news s, K i m mus news → St w T s₀ env m mus news s → s.heap.get? l = some (tupO xs)) (hK : K 0 m mus news)
    (turn : ∀ I i m mus news oI v s, i < xs.size → K i m mus news → xs[i]? = some v → St w T s₀ env m ((I, oI) :: mus) news s →
      wpAny (model P31 w) A (assign target env v) (fun _ s => wpAny (model P31 w) A (execs body env) (fun f s => match f with
          | .next | .cont => ∃ m' mus' news', St w T s₀ env m' ((I, oI) :: mus') news' s ∧ K (i + 1) m' mus' news'
          | .brk => Q .next s
          | .ret v => Q (.ret v) s) NoE s) NoE s)
    (fin : ∀ m mus news s, K xs.size m mus news → St w T s₀ env m mus news s → Q .next s) (ht : ∀ I v, letOwnedTupleGo target (.ref I) v = pure () := by intro _ _; rfl) :
    wpAny (model P31 w) A (pyIter (.ref l)) (fun it s => codeAny (model P31 w) A (.forLoop target it body [] env) (fun r s' => match r with | .ok f => Q f s' | .error e => cameBackBy (model P31 w) A env NoE e s') s) NoE s := by
  have hlt : s.heap.IsTuple l xs := ⟨_, hl, rfl, _, rfl⟩
  refine @wpAny_pyIter_tuple _ _ _ _ _ _ _ _ hlt ?_
  have hne : l ≠ s.heap.objs.size := Nat.ne_of_lt (Heap.lt_size hl)
  have Z' := Z.pushM { cls := .type "tuple_iterator", data := .fields #[.ref l, .int 0 0] } iter_mu (t := s.toks)
  refine r_forW (Walks.tuple hh s.heap.objs.size l hne xs) (fun i h ⟨⟨o, e, c, d⟩, _⟩ => ⟨o, e, fields_mu (r := []) c d⟩) K (fun b hb => ?_) Z' ⟨⟨_, Heap.get?_push_size _ rfl, rfl, rfl⟩, hlt.push _⟩ hK (fun i m mus news oI v s h1 h2 h3 h4 => turn _ i m mus news oI v s h1 h2 h3 h4) fin (ht _)
  simp only [List.mem_cons, List.not_mem_nil, or_false] at hb
  rcases hb with rfl | rfl
  · exact .inl rfl
  · exact .inr ⟨_, fun i m mus news oI s h1 h2 => hfix i m _ _ _ h1 h2.dropM⟩
theorem r_iterRev {Q : Flow → Shared → Prop} {target : Expr} {body : List Stmt} {l : Addr} {lo : Obj} {xs : Array Value} (Z : St w T s₀ env m mus news s) (hh : A.handled = none) (hl : s.heap.get? l = some lo) (hlo : IsL lo xs)
    (K : Nat → (Str → Option Value) → List (Addr × Obj) → List (Addr × Obj) → Prop) (hfix : ∀ i m mus news s, K i m mus news → St w T s₀ env m mus news s → s.heap.get? l = some lo) (hK : K 0 m mus news)
    (turn : ∀ I i m mus news oI v s, i < xs.size → K i m mus news → xs[xs.size - 1 - i]? = some v → St w T s₀ env m ((I, oI) :: mus) news s →
      wpAny (model P31 w) A (assign target env v) (fun _ s => wpAny (model P31 w) A (execs body env) (fun f s => match f with
          | .next | .cont => ∃ m' mus' news', St w T s₀ env m' ((I, oI) :: mus') news' s ∧ K (i + 1) m' mus' news'
          | .brk => Q .next s
          | .ret v => Q (.ret v) s) NoE s) NoE s)
    (fin : ∀ m mus news s, K xs.size m mus news → St w T s₀ env m mus news s → Q .next s) (ht : ∀ I v, letOwnedTupleGo target (.ref I) v = pure () := by intro _ _; rfl) :
    wpAny (model P31 w) A (call (.type "reversed") [.ref l]) (fun x s => wpAny (model P31 w) A (pyIter x) (fun it s => codeAny (model P31 w) A (.forLoop target it body [] env) (fun r s' => match r with | .ok f => Q f s' | .error e => cameBackBy (model P31 w) A env NoE e s') s) NoE s) NoE s := by
  refine @call_reversed_list _ _ _ _ _ _ _ _ (hlo.list hl) ?_
  have hne : l ≠ s.heap.objs.size := Nat.ne_of_lt (Heap.lt_size hl)
  have Z' := Z.pushM (revObj l ((xs.size : Int) - 1)) iter_mu (t := s.toks)
  refine wpAny_pyIter_revIter (l := l) (i := (xs.size : Int) - 1) ⟨_, Heap.get?_push_size _ rfl, rfl, rfl⟩ ?_
  refine r_forW (Walks.listRev hh s.heap.objs.size l hne xs) (fun i h ⟨_, ⟨o, e, c, d⟩, _⟩ => ⟨o, e, fields_mu (r := []) c d⟩) K (fun b hb => ?_) Z' ⟨Nat.zero_le _, ⟨_, Heap.get?_push_size _ rfl, rfl, by simp [revObj]⟩, (hlo.list hl).push _⟩ hK (fun i m mus news oI v s h1 h2 h3 h4 => turn _ i m mus news oI v s h1 h2 h3 h4) fin (ht _)
  simp only [List.mem_cons, List.not_mem_nil, or_false] at hb
  rcases hb with rfl | rfl
  · exact .inl rfl
  · exact .inr ⟨lo, fun i m mus news oI s h1 h2 => hfix i m _ _ _ h1 h2.dropM⟩
theorem upd_list {h : Heap} {l : Addr} {xs : Array Value} {n : Nat} (f : Array Value → Array Value) (hl : h.get? l = some (lstO xs n)) : ∃ n', (h.update l (Obj.mapSeq f)).get? l = some (lstO (f xs) n') ∧ ∀ b o, b ≠ l → h.get? b = some o → (h.update l (Obj.mapSeq f)).get? b = some o :=
  ⟨_, PySem.IsL.update hl f, fun b o hb e => (Heap.get?_update_ne _ _ _ _ hb).trans e⟩
theorem r_append {E : Value → Shared → Prop} {Q : Value → Shared → Prop} {D : Addr} {xs : Array Value} {n : Nat} {v : Value} (Z : St w T s₀ env m ((D, lstO xs n) :: mus) news s) (hsz : xs.size ≤ 2 ^ 20)
    (h : ∀ n s, St w T s₀ env m ((D, lstO (xs.push v) n) :: mus) news s → Q .none s) : wpAny (model P31 w) A (call (.builtin "list.append") [.ref D, v]) Q E s := by
  have hg := Z.getM (.head _)
  obtain ⟨n', h1, h2⟩ := upd_list (fun x => x.push v) hg
  exact PySem.call_meets slot_list_append (T := "list") ⟨_, hg, rfl⟩ entry_list_append (args_list_append _ _) (PySem.list_append D xs n v (Nat.le_trans hsz (by decide))) ⟨hg, h n' _ (Z.turn (t := s.toks) h2 h1 isL_lst.mu)⟩
theorem r_reverse {E : Value → Shared → Prop} {Q : Value → Shared → Prop} {D : Addr} {xs : Array Value} {n : Nat} {pos : Pos} (Z : St w T s₀ env m ((D, lstO xs n) :: mus) news s) (hsz : xs.size ≤ 2 ^ 20)
    (h : ∀ n s, St w T s₀ env m ((D, lstO xs.reverse n) :: mus) news s → Q .none s) : wpAny (model P31 w) A (callWith pos (.builtin "list.reverse") [.ref D] [] []) Q E s := by
  have hg := Z.getM (.head _)
  obtain ⟨n', h1, h2⟩ := upd_list (fun x => x.reverse) hg
  exact @PySem.P.reverse_list _ _ _ _ _ _ _ _ _ _ hg (h n' _ (Z.turn (t := s.toks) h2 h1 isL_lst.mu)) (Nat.le_trans hsz (by decide))
noncomputable def litInt : Expr → Option Int
  | .Constant (.int i) _ _ => some i
  | .UnaryOp .USub (.Constant (.int i) _ _) _ => some (-i)
  | _ => none
inductive LitOf : Expr → Int → Prop
  | con (i : Int) (k : Nat) (p : Pos) : LitOf (.Constant (.int i) k p) i
  | neg (j : Int) (k : Nat) (p p' : Pos) : LitOf (.UnaryOp .USub (.Constant (.int j) k p) p') (-j)
theorem litInt_inv {e : Expr} {i : Int} (he : litInt e = some i) : LitOf e i := by
  cases e with
  | Constant c k p => cases c with
    | int j => cases he; exact .con ..
    | _ => exact @none_ne _ _ _ he
  | UnaryOp op x p => cases op with
    | USub => cases x with
      | Constant c k p => cases c with
        | int j => cases he; exact .neg ..
        | _ => exact @none_ne _ _ _ he
      | _ => exact @none_ne _ _ _ he
    | _ => exact @none_ne _ _ _ he
  | _ => exact @none_ne _ _ _ he
theorem eval_lit {E : Value → Shared → Prop} {Q : Value → Shared → Prop} {e : Expr} {i : Int} (he : litInt e = some i) (Z : St w T s₀ env m mus news s) (h : ∀ t s, St w T s₀ env m mus news s → Q (.int i t) s) : wpAny (model P31 w) A (eval e env) Q E s := by
  cases litInt_inv he with
  | con => exact @k_int _ _ _ _ _ _ _ _ _ _ _ _ _ _ Z h
  | neg => exact @wpAny_UnaryOp _ _ _ _ _ _ _ _ _ (@k_int _ _ _ _ _ _ _ _ _ _ _ _ _ _ Z fun t s Z => @r_neg _ _ _ _ _ _ _ _ _ _ _ _ _ Z h)
theorem star_lit {e : Expr} {i : Int} (he : litInt e = some i) : isStar e = false := by
  cases litInt_inv he <;> rfl
theorem args_ints {E : Value → Shared → Prop} {pos : Pos} (ns : List Int) {es : List Expr} {s : Shared} {Q : List Value → Shared → Prop} (he : es.map litInt = ns.map some) (Z : St w T s₀ env m mus news s) (h : ∀ vs s, IntsAre vs ns → St w T s₀ env m mus news s → Q vs s) :
    wpAny (model P31 w) A (spliced (backTo pos (starEach es env))) Q E s := by
  induction ns generalizing es s Q with
  | nil =>
    obtain rfl : es = [] := List.map_eq_nil_iff.mp he
    exact @args_nil _ _ _ _ _ _ _ (h _ _ .nil Z)
  | cons n ns ih =>
    cases es with
    | nil => exact nomatch he
    | cons e es =>
      rw [List.map_cons, List.map_cons, List.cons.injEq] at he
      exact @a_cons _ _ _ _ _ _ _ _ _ (@eval_lit _ _ _ _ _ _ _ _ _ _ _ _ _ he.1 Z fun t s Z => ih he.2 Z fun vs s hv Z => h _ _ (.cons _ _ hv) Z) (star_lit he.1)
theorem st_builtin {E : Value → Shared → Prop} {Q : Value → Shared → Prop} {value slice : Expr} {o i : Value} {T id : String} (hT : s.TypeIs o T)
    (hl : typeLookup (.type T) "__getitem__" = pure (some (.builtin id))) (h : wpAny (model P31 w) A (getItem o i) Q E s)
    (hs : subscripted slice false o i = operate [o, i] (getItem o i) := by with_unfolding_all rfl) : wpAny (model P31 w) A (subscriptTail value slice o i) Q E s := by
  unfold subscriptTail
  refine @wpAny_bind _ _ _ _ _ _ _ _ _ ?_
  rw [getitemInPython_of_ne hT.not_modules]
  refine @wpAny_bind _ _ _ _ _ _ _ _ _ (@wpAny_specialOf _ _ _ _ _ _ _ _ _ hT hl ?_)
  have fin : wpAny (model P31 w) A (subscripted slice false o i) (fun r s₃ => wpAny (model P31 w) A (letTemporaryGo value o r >>= fun _ => pure r) Q E s₃) E s := by
    rw [hs]
    exact @wpAny_operating _ _ _ _ _ _ _ (@wpAny_mono _ _ _ _ _ _ _ _ _ h (fun r s₃ h₃ => @wpAny_bind _ _ _ _ _ _ _ _ _ (@wpAny_letTemporaryGo _ _ _ _ _ _ _ _ _ (@wpAny_pure _ _ _ _ _ _ _ h₃))) fun _ _ x => x)
  first
    | exact @wpAny_pure _ _ _ _ _ _ _ (@wpAny_bind _ _ _ _ _ _ _ _ _ fin)
    | exact @wpAny_bind _ _ _ _ _ _ _ _ _ (@wpAny_pure _ _ _ _ _ _ _ (@wpAny_bind _ _ _ _ _ _ _ _ _ fin))
    | exact @wpAny_bind _ _ _ _ _ _ _ _ _ fin
theorem st_list {E : Value → Shared → Prop} {Q : Value → Shared → Prop} {value slice : Expr} {l : Addr} {items : Array Value} {k : Int} {u : Tok} {x : Value} (hl : s.heap.IsList l items) (h0 : 0 ≤ k) (hfit : k < 2 ^ 63) (hx : items[k.toNat]? = some x) (h : Q x s)
    (hs : subscripted slice false (.ref l) (.int k u) = operate [.ref l, .int k u] (getItem (.ref l) (.int k u)) := by with_unfolding_all rfl) : wpAny (model P31 w) A (subscriptTail value slice (.ref l) (.int k u)) Q E s :=
  @st_builtin _ _ _ _ _ _ _ _ _ _ _ hl.typeIs slot_list_getitem.lookup (@wpAny_getItem_list _ _ _ _ _ _ _ _ _ _ _ hl h0 hfit hx h) hs
theorem ints_at {vs : List Value} {ns : List Int} (hi : IntsAre vs ns) {k : Nat} (hk : k < ns.length) : ∃ t, vs.toArray[k]? = some (.int (ns.getD k 0) t) := by
  induction hi generalizing k with
  | nil => exact absurd hk (Nat.not_lt_zero _)
  | cons n t r ih =>
    cases k with
    | zero => exact ⟨t, by simp⟩
    | succ k =>
      obtain ⟨t', e⟩ := ih (by simpa using hk)
      exact ⟨t', by simpa using e⟩
end
end Mine
namespace Mine
open PySem PySem.W PySem.Calls PyProof.Rows
theorem fdiv_pow (a : Int) (k : Nat) : a.fdiv (2 ^ k) = a / 2 ^ k := Int.fdiv_eq_ediv_of_nonneg _ (Int.le_of_lt (Int.pow_pos (by decide)))
theorem mulOk {a b : Int} (h : Builtin.Int.intBits a + Builtin.Int.intBits b ≤ 2 ^ 27) : IntMulOk a b := by
  unfold IntMulOk
  have : Builtin.Int.intTooBig ((Builtin.Int.intBits a : Int) + Builtin.Int.intBits b) = false := by
    unfold Builtin.Int.intTooBig
    rw [decide_eq_false_iff_not, show (bitsLine : Int) = 2 ^ 27 by rfl]
    lia
  simp [this]
theorem bitsN {a : Int} {k : Nat} (h0 : 0 ≤ a) (h : a < 2 ^ k) : Builtin.Int.intBits a ≤ k := by
  refine bits_le ?_
  have : ((a.natAbs : Nat) : Int) < ((2 ^ k : Nat) : Int) := by push_cast; lia
  exact_mod_cast this
section
variable {w : World} {T : Tops} {s₀ s : Shared} {env : Env} {m : Str → Option Value} {mus news : List (Addr × Obj)} {A : Around} {E : Value → Shared → Prop} {a : Int} {k : Nat} {t u : Tok} {Q : Value → Shared → Prop}
theorem r_shl' (Z : St w T s₀ env m mus news s) (hsz : Builtin.Int.intBits a + k ≤ 2 ^ 27) (h : ∀ t s, St w T s₀ env m mus news s → Q (.int (a * 2 ^ k) t) s) : wpAny (model P31 w) A (binaryOp .LShift (.int a t) (.int (k : Int) u)) Q E s :=
  @r_shl _ _ _ _ _ _ _ _ _ _ _ _ _ _ _ Z (by lia) (by lia) h
theorem r_shr' (Z : St w T s₀ env m mus news s) (h : ∀ t s, St w T s₀ env m mus news s → Q (.int (a / 2 ^ k) t) s) : wpAny (model P31 w) A (binaryOp .RShift (.int a t) (.int (k : Int) u)) Q E s :=
  @r_shr _ _ _ _ _ _ _ _ _ _ _ _ _ _ _ Z (by lia) fun t s Z => by rw [Int.toNat_natCast, fdiv_pow]; exact h t s Z
theorem r_mask (Z : St w T s₀ env m mus news s) (ha : 0 ≤ a) (h : ∀ t s, St w T s₀ env m mus news s → Q (.int (a % 2 ^ k) t) s) : wpAny (model P31 w) A (binaryOp .BitAnd (.int a t) (.int (1 * 2 ^ k - 1) u)) Q E s :=
  @r_and _ _ _ _ _ _ _ _ _ _ _ _ _ _ _ Z fun t s Z => by rw [Int.one_mul, bitAnd_mask k ha]; exact h t s Z
theorem r_glue {b : Int} (Z : St w T s₀ env m mus news s) (ha : 0 ≤ a) (hb : 0 ≤ b) (hb2 : b < 2 ^ k) (h : ∀ t s, St w T s₀ env m mus news s → Q (.int (a * 2 ^ k + b) t) s) : wpAny (model P31 w) A (binaryOp .BitOr (.int (a * 2 ^ k) t) (.int b u)) Q E s :=
  @r_or _ _ _ _ _ _ _ _ _ _ _ _ _ _ _ Z fun t s Z => by rw [bitOr_shl k ha hb hb2]; exact h t s Z
end

noncomputable def Div1 (w : World) (T : Tops) (k : Nat) : Prop := ∀ {s : Shared} {A : Around} {Q : Value → Shared → Prop} {a b : Int} {n : Nat} {ta tb tn : Tok}, G w T s.heap → A.depth + 2 * k + 1 ≤ recursionLimit → A.handled = none →
  n ≤ 4000 * 2 ^ k → n ≤ 40000 → 1 ≤ n → (2 : Int) ^ n ≤ 2 * b → b < 2 ^ n → 0 ≤ a → a < b * 2 ^ n →
  (∀ q r s' d t1 t2, Later w T s s' → q * b + r = a → 0 ≤ r → r < b → s'.heap.get? d = some (tupO #[.int q t1, .int r t2]) → s.heap.get? d = none → Q (.ref d) s') →
  wpAny (model P31 w) A (call (.ref (T.f 1)) [.int a ta, .int b tb, .int n tn]) Q NoE s
noncomputable def Div2 (w : World) (T : Tops) (k : Nat) : Prop := ∀ {s : Shared} {A : Around} {Q : Value → Shared → Prop} {a a3 b b1 b2 : Int} {n : Nat} {t1 t2 t3 t4 t5 t6 : Tok}, G w T s.heap → A.depth + 2 * k + 2 ≤ recursionLimit → A.handled = none →
  n ≤ 4000 * 2 ^ k → n ≤ 40000 → 1 ≤ n → (2 : Int) ^ n ≤ 2 * b1 → b1 < 2 ^ n → 0 ≤ b2 → b2 < 2 ^ n → b = b1 * 2 ^ n + b2 → 0 ≤ a3 → a3 < 2 ^ n → 0 ≤ a → a < b →
  (∀ q r s' d t1 t2, Later w T s s' → q * b + r = a * 2 ^ n + a3 → 0 ≤ r → r < b → s'.heap.get? d = some (tupO #[.int q t1, .int r t2]) → s.heap.get? d = none → Q (.ref d) s') →
  wpAny (model P31 w) A (call (.ref (T.f 2)) [.int a t1, .int a3 t2, .int b t3, .int b1 t4, .int b2 t5, .int n t6]) Q NoE s

theorem shl1 {n : Nat} (h : n ≤ 100000) : Builtin.Int.intBits 1 + n ≤ 2 ^ 27 := by
  have : Builtin.Int.intBits 1 = 1 := by decide
  lia
section
variable {w : World} {T : Tops}
theorem div2_of {k : Nat} (H : Div1 w T k) : Div2 w T k := by
  intro s₀ A Q a a3 b b1 b2 n t1 t2 t3 t4 t5 t6 g room hh hn hn2 hn1 h1 h2 h4 h5 h6 h7 h8 h9 h10 h
  have hP : (0 : Int) < 2 ^ n := Int.pow_pos (by decide)
  refine call_fn (i := 2) (binds := [("a12", .int a t1), ("a3", .int a3 t2), ("b", .int b t3), ("b1", .int b1 t4), ("b2", .int b2 t5), ("n", .int n t6)]) (by decide) g (by lia) (by rfl) (by rfl) (by rfl) (fun s₁ Z => ?_) (by rfl) (by rfl) (by rfl)
  -- the end of the def, from the loop on
  have tail : ∀ (q r : Int) (tq tr : Tok) (news : List (Addr × Obj)) (s₁ : Shared), q * b1 + r = a → 0 ≤ r → 0 ≤ q → q < 2 ^ n → r * 2 ^ n + a3 - q * b2 < b →
      St w T s₀ (envF T 2 s₀.heap.objs.size) (upd (upd (mOf (envF T 2 s₀.heap.objs.size) [("a12", .int a t1), ("a3", .int a3 t2), ("b", .int b t3), ("b1", .int b1 t4), ("b2", .int b2 t5), ("n", .int n t6)]) "q" (.int q tq)) "r" (.int r tr)) [] news s₁ →
      wpAny (model P31 w) (A.deeper (envF T 2 s₀.heap.objs.size)) (execs ((fBody (fAt 2)).drop 1) (envF T 2 s₀.heap.objs.size)) (fun f s' => Q (match f with | .ret v => v | _ => .none) s') NoE s₁ := by
    intro q r tq tr news s₁ e1 e2 e3 e4 e5 Z
    have hb : b < 2 ^ n * 2 ^ n := by
      have : b1 + 1 ≤ 2 ^ n := by lia
      have := Int.mul_le_mul_of_nonneg_right this (Int.le_of_lt hP)
      rw [Int.add_mul] at this; lia
    have hr : r < 2 ^ (n + n) := by
      have h0 : 0 ≤ q * b1 := Int.mul_nonneg e3 (by lia)
      rw [Int.pow_add]; omega
    have hbr := bitsN e2 hr
    have hbq := bitsN e3 e4
    have hb2 := bitsN h4 h5
    refine @wpAny_execs_cons _ _ _ _ _ _ _ _ (@wpAny_Assign_Name _ _ _ _ _ _ _ _ _ _ ((@wpAny_BinOp _ _ _ _ _ _ _ _ _ _ (@wpAny_BinOp _ _ _ _ _ _ _ _ _ _ (@wpAny_BinOp _ _ _ _ _ _ _ _ _ _ (@ld _ _ _ _ _ _ _ _ _ _ _ _ Z _ rfl ((@ld _ _ _ _ _ _ _ _ _ _ _ _ Z _ rfl ((@r_shl' _ _ _ _ _ _ _ _ _ _ _ _ _ _ _ Z (by lia) fun t s Z => @ld _ _ _ _ _ _ _ _ _ _ _ _ Z _ rfl ((@r_glue _ _ _ _ _ _ _ _ _ _ _ _ _ _ _ _ Z e2 h7 h8 fun t s Z => @wpAny_BinOp _ _ _ _ _ _ _ _ _ _ (@ld _ _ _ _ _ _ _ _ _ _ _ _ Z _ rfl ((@ld _ _ _ _ _ _ _ _ _ _ _ _ Z _ rfl ((@r_mul _ _ _ _ _ _ _ _ _ _ _ _ _ _ _ Z (mulOk (by lia)) fun t s Z => @r_sub _ _ _ _ _ _ _ _ _ _ _ _ _ _ _ Z fun t s Z => @stl _ _ _ _ _ _ _ _ _ _ _ Z _ (fun s Z => ?_) (by rfl) (by rfl) (by rfl))) (by rfl) (by rfl) (by decide) (by decide))) (by rfl) (by rfl) (by decide) (by decide)))) (by rfl) (by rfl) (by decide) (by decide))) (by rfl) (by rfl) (by decide) (by decide))) (by rfl) (by rfl) (by decide) (by decide)))))) (by rfl))
    rw [upd_over] at Z
    refine @wpAny_execs_cons _ _ _ _ _ _ _ _ (@r_while _ _ _ _ _ _ _ _ (fun j s' => ∃ q r tq tr, St w T s₀ (envF T 2 s₀.heap.objs.size) (upd (upd (mOf (envF T 2 s₀.heap.objs.size) [("a12", .int a t1), ("a3", .int a3 t2), ("b", .int b t3), ("b1", .int b1 t4), ("b2", .int b2 t5), ("n", .int n t6)]) "q" (.int q tq)) "r" (.int r tr)) [] news s' ∧
      q * b + r = a * 2 ^ n + a3 ∧ r < b ∧ j = (-r).toNat) (fun j s' hI => ?_) _ ⟨q, _, tq, t, Z, ?_, e5, rfl⟩)
    · refine @while_hide _ _ _ _ _ _ _ _ _ _ _ fun Pt Dt hPt hDt => @goal_hide _ fun G hG => ?_
      obtain ⟨q, r, tq, tr, Z, i1, i2, rfl⟩ := hI
      refine hG ?_
      clear hG
      refine @wpAny_isTrue_Compare1 _ _ _ _ _ _ _ _ _ _ _ ((@ld _ _ _ _ _ _ _ _ _ _ _ _ Z _ rfl ((@wpAny_Constant_int _ _ _ _ _ _ _ _ _ (@lt_int _ _ _ _ _ _ _ _ _ _ (@wpAny_truthy_bool _ _ _ _ _ _ ?_)))) (by rfl) (by rfl) (by decide) (by decide))) (by with_unfolding_all rfl)
      have Z := Z.tok (t := s'.toks + 1)
      by_cases hr0 : r < 0
      · rw [if_pos (by simpa using hr0)]
        refine @wpAny_execs_cons _ _ _ _ _ _ _ _ (@wpAny_AugAssign_Name _ _ _ _ _ _ _ _ _ _ _ (@ldn _ _ _ _ _ _ _ _ _ _ _ Z _ rfl ((@wpAny_Constant_int _ _ _ _ _ _ _ _ _ (@r_isub _ _ _ _ _ _ _ _ _ _ _ _ _ _ _ Z.tok fun t s Z => @stl _ _ _ _ _ _ _ _ _ _ _ Z _ (fun s Z => ?_) (by rfl) (by rfl) (by rfl)))) (by rfl) (by rfl) (by decide)))
        refine @wpAny_execs_cons _ _ _ _ _ _ _ _ (@wpAny_AugAssign_Name _ _ _ _ _ _ _ _ _ _ _ (@ldn _ _ _ _ _ _ _ _ _ _ _ Z _ rfl ((@ld _ _ _ _ _ _ _ _ _ _ _ _ Z _ rfl ((@r_iadd _ _ _ _ _ _ _ _ _ _ _ _ _ _ _ Z fun t s Z => @stl _ _ _ _ _ _ _ _ _ _ _ Z _ (fun s Z => @wpAny_execs_nil _ _ _ _ _ _ ?_) (by rfl) (by rfl) (by rfl))) (by rfl) (by rfl) (by decide) (by decide))) (by rfl) (by rfl) (by decide)))
        rw [upd4] at Z
        exact hPt _ _ ⟨_, by lia, q - 1, r + b, _, _, Z, by rw [Int.sub_mul]; lia, by lia, rfl⟩
      · rw [if_neg (by simpa using hr0)]
        refine hDt _ ?_
        refine @wpAny_execs_cons _ _ _ _ _ _ _ _ (@wpAny_Return_some _ _ _ _ _ _ _ _ (@Tuple_ _ _ _ _ _ _ _ _ _ (@a_cons _ _ _ _ _ _ _ _ _ ((@ld _ _ _ _ _ _ _ _ _ _ _ _ Z _ rfl ((@a_cons _ _ _ _ _ _ _ _ _ ((@ld _ _ _ _ _ _ _ _ _ _ _ _ Z _ rfl ((@args_nil _ _ _ _ _ _ _ (@r_tuple2 _ _ _ _ _ _ _ _ _ _ _ _ _ Z fun d s Z => ?_))) (by rfl) (by rfl) (by decide) (by decide))) (by rfl))) (by rfl) (by rfl) (by decide) (by decide))) (by rfl))))
        exact h _ _ _ d _ _ Z.done i1 (by lia) i2 (Z.get (.head _)) (Z.nw _ (.head _)).2.2.2.1
    · rw [h6, ← e1, Int.mul_add, Int.add_mul, Int.mul_assoc]; lia
  have e12 : a / 2 ^ n * 2 ^ n + a % 2 ^ n = a := Int.ediv_mul_add_emod ..
  have e13 := Int.emod_nonneg a (Int.ne_of_gt hP)
  have e14 := Int.emod_lt_of_pos a hP
  have e15 : a / 2 ^ n ≤ b1 := by
    have : a / 2 ^ n < b1 + 1 := Int.ediv_lt_of_lt_mul hP (by rw [Int.add_mul]; (clear room hn hn2 hn1 h1 h2 h4 h7 h8 h9 hP e13 e14; lia))
    lia
  refine @wpAny_execs_cons _ _ _ _ _ _ _ _ (@wpAny_If _ _ _ _ _ _ _ _ _ _ (@wpAny_isTrue_Compare1 _ _ _ _ _ _ _ _ _ _ _ ((@wpAny_BinOp _ _ _ _ _ _ _ _ _ _ (@ld _ _ _ _ _ _ _ _ _ _ _ _ Z _ rfl ((@ld _ _ _ _ _ _ _ _ _ _ _ _ Z _ rfl ((@r_shr' _ _ _ _ _ _ _ _ _ _ _ _ _ _ _ Z fun t s Z => @ld _ _ _ _ _ _ _ _ _ _ _ _ Z _ rfl ((@eq_int _ _ _ _ _ _ _ _ _ _ (@wpAny_truthy_bool _ _ _ _ _ _ ?_))) (by rfl) (by rfl) (by decide) (by decide))) (by rfl) (by rfl) (by decide) (by decide))) (by rfl) (by rfl) (by decide) (by decide)))) (by with_unfolding_all rfl)))
  by_cases hc : a / 2 ^ n = b1
  · rw [if_pos (by simpa using hc)]
    have hbb := bitsN (a := b1) (k := n) (by lia) h2
    refine @wpAny_execs_cons _ _ _ _ _ _ _ _ <| Assign_Tuple_swapped (names := ["q", "r"]) <| @Tuple_ _ _ _ _ _ _ _ _ _ <| @a_cons _ _ _ _ _ _ _ _ _ ( @wpAny_BinOp _ _ _ _ _ _ _ _ _ _ <| @wpAny_BinOp _ _ _ _ _ _ _ _ _ _ <| @wpAny_Constant_int _ _ _ _ _ _ _ _ _ <| @ld _ _ _ _ _ _ _ _ _ _ _ _ Z.tok _ rfl ( @r_shl' _ _ _ _ _ _ _ _ _ _ _ _ _ _ _ Z.tok (shl1 (by lia)) fun t s Z => @wpAny_Constant_int _ _ _ _ _ _ _ _ _ <| @r_sub _ _ _ _ _ _ _ _ _ _ _ _ _ _ _ Z.tok fun t s Z =>
      @a_cons _ _ _ _ _ _ _ _ _ ( @wpAny_BinOp _ _ _ _ _ _ _ _ _ _ <| @wpAny_BinOp _ _ _ _ _ _ _ _ _ _ <| @ld _ _ _ _ _ _ _ _ _ _ _ _ Z _ rfl ( @wpAny_BinOp _ _ _ _ _ _ _ _ _ _ <| @ld _ _ _ _ _ _ _ _ _ _ _ _ Z _ rfl ( @ld _ _ _ _ _ _ _ _ _ _ _ _ Z _ rfl ( @r_shl' _ _ _ _ _ _ _ _ _ _ _ _ _ _ _ Z (by lia) fun t s Z => @r_sub _ _ _ _ _ _ _ _ _ _ _ _ _ _ _ Z fun t s Z => @ld _ _ _ _ _ _ _ _ _ _ _ _ Z _ rfl ( @r_add _ _ _ _ _ _ _ _ _ _ _ _ _ _ _ Z fun t s Z => @args_nil _ _ _ _ _ _ _ <| @r_tuple2 _ _ _ _ _ _ _ _ _ _ _ _ _ Z fun d s Z => ?_) (by rfl) (by rfl) (by decide) (by decide)) (by rfl) (by rfl) (by decide) (by decide)) (by rfl) (by rfl) (by decide) (by decide)) (by rfl) (by rfl) (by decide) (by decide)) (by rfl)) (by rfl) (by rfl) (by decide) (by decide)) (by rfl)
    refine @r_unpackItems2 _ _ _ _ _ _ _ _ _ _ _ _ _ _ Z hh (Z.get (.head _)) fun s Z => @assignInOrder_cons _ _ _ _ _ _ _ _ _ <| @wpAny_bindName _ _ _ _ _ _ _ _ <| @stl _ _ _ _ _ _ _ _ _ _ _ Z _ (fun s Z => @assignInOrder_cons _ _ _ _ _ _ _ _ _ <| @wpAny_bindName _ _ _ _ _ _ _ _ <| @stl _ _ _ _ _ _ _ _ _ _ _ Z _ (fun s Z => @assignInOrder_nil _ _ _ _ _ _ <| @wpAny_execs_nil _ _ _ _ _ _ ?_) (by rfl) (by rfl) (by rfl)) (by rfl) (by rfl) (by rfl)
    rw [upd_swap (by decide)] at Z
    have q1 : (1 * 2 ^ n - 1) * b1 + (a - b1 * 2 ^ n + b1) = a := by rw [Int.one_mul, Int.sub_mul, Int.mul_comm (2 ^ n) b1]; lia
    refine tail _ _ _ _ _ _ q1 ?_ ?_ ?_ ?_ Z
    · rw [← hc]; lia
    · lia
    · lia
    · have : (a - b1 * 2 ^ n - b2) * 2 ^ n ≤ -1 * 2 ^ n := Int.mul_le_mul_of_nonneg_right (by lia) (Int.le_of_lt hP)
      have e : (a - b1 * 2 ^ n + b1) * 2 ^ n + a3 - (1 * 2 ^ n - 1) * b2 = b + ((a - b1 * 2 ^ n - b2) * 2 ^ n + a3) := by
        rw [h6]; simp only [Int.sub_mul, Int.add_mul, Int.one_mul, Int.mul_comm b2]; lia
      rw [e]; lia
  · rw [if_neg (by simpa using hc)]
    refine @wpAny_execs_cons _ _ _ _ _ _ _ _ (@Assign_Tuple _ _ _ _ _ _ _ _ _ _ _ ((@c_call _ _ _ _ _ _ _ _ _ _ (@ldg _ _ _ _ _ _ _ _ _ _ _ _ Z _ rfl ((r_callfn (i := 1) (@a_cons _ _ _ _ _ _ _ _ _ ((@ld _ _ _ _ _ _ _ _ _ _ _ _ Z _ rfl ((@a_cons _ _ _ _ _ _ _ _ _ ((@ld _ _ _ _ _ _ _ _ _ _ _ _ Z _ rfl ((@a_cons _ _ _ _ _ _ _ _ _ ((@ld _ _ _ _ _ _ _ _ _ _ _ _ Z _ rfl ((@args_nil _ _ _ _ _ _ _ ⟨(Z.g.fn 1 (by decide)).1, ?_⟩)) (by rfl) (by rfl) (by decide) (by decide))) (by rfl))) (by rfl) (by rfl) (by decide) (by decide))) (by rfl))) (by rfl) (by rfl) (by decide) (by decide))) (by rfl)))) (by rfl) (by rfl) (by rfl) (by decide)))) (by rfl) (by rfl))
    refine H Z.g (by show A.depth + 1 + _ + 1 ≤ _; lia) hh hn hn2 hn1 h1 h2 h9 ?_ fun q r s' d t1 t2 l q1 q2 q3 q4 q5 => ?_
    · have : a / 2 ^ n + 1 ≤ b1 := by lia
      have := Int.mul_le_mul_of_nonneg_right this (Int.le_of_lt hP)
      rw [Int.add_mul] at this; lia
    have Z := Z.join1 l ⟨q4, nofun, q5⟩
    refine @r_unpack2 _ _ _ _ _ _ _ _ _ _ _ _ _ _ _ _ _ _ _ _ Z hh (Z.get (.head _)) fun s Z => @stl _ _ _ _ _ _ _ _ _ _ _ Z _ (fun s Z => @stl _ _ _ _ _ _ _ _ _ _ _ Z _ (fun s Z => @wpAny_execs_nil _ _ _ _ _ _ ?_) (by rfl) (by rfl) (by rfl)) (by rfl) (by rfl) (by rfl)
    have p1 : 0 ≤ q := by
      refine Int.not_lt.mp fun hq => ?_
      have : q * b1 ≤ -1 * b1 := Int.mul_le_mul_of_nonneg_right (by lia) (by omega)
      lia
    have p2 : q < 2 ^ n := by
      refine Int.not_le.mp fun hq => ?_
      have : 2 ^ n * b1 ≤ q * b1 := Int.mul_le_mul_of_nonneg_right hq (by omega)
      have : a / 2 ^ n + 1 ≤ b1 := by lia
      have := Int.mul_le_mul_of_nonneg_right this (Int.le_of_lt hP)
      rw [Int.add_mul] at this
      rw [Int.mul_comm (2 ^ n) b1] at *
      lia
    refine tail q r _ _ _ _ q1 q2 p1 p2 ?_ Z
    have := Int.mul_le_mul_of_nonneg_right (show r + 1 ≤ b1 by lia) (Int.le_of_lt hP)
    have p3 : 0 ≤ q * b2 := Int.mul_nonneg p1 h4
    rw [Int.add_mul] at this
    rw [h6]; lia
theorem q_lt {q b r x y : Int} {P : Int} (hb : 0 < b) (e : q * b + r = x * P + y) (h1 : r < b) (h2 : 0 ≤ r) (h3 : 0 ≤ x) (h4 : x < b) (h5 : 0 ≤ y) (h6 : y < P) : 0 ≤ q ∧ q < P := by
  have hxp : 0 ≤ x * P := Int.mul_nonneg h3 (by lia)
  constructor
  · refine Int.not_lt.mp fun hq => ?_
    have : q * b ≤ -1 * b := Int.mul_le_mul_of_nonneg_right (by lia) (by lia)
    lia
  · refine Int.not_le.mp fun hq => ?_
    have h7 : P * b ≤ q * b := Int.mul_le_mul_of_nonneg_right hq (by omega)
    have h8 := Int.mul_le_mul_of_nonneg_right (show x + 1 ≤ b by (clear hb e h1 h2 h3 h5 h6 hxp hq h7; lia)) (show 0 ≤ P by omega)
    rw [Int.add_mul] at h8
    rw [Int.mul_comm P b] at h7
    lia
theorem band1 (n : Nat) : Builtin.bitAnd (n : Int) 1 = ((n % 2 : Nat) : Int) := by
  have := bitAnd_mask (a := (n : Int)) 1 (by omega)
  rw [show ((2 : Int) ^ 1 - 1) = 1 by decide] at this
  rw [this]; lia
theorem r_half {s₀ s : Shared} {env : Env} {m : Str → Option Value} {mus news : List (Addr × Obj)} {A : Around} {E : Value → Shared → Prop} {h : Nat} {t u : Tok} {Q : Value → Shared → Prop} (Z : St w T s₀ env m mus news s)
    (hq : ∀ t s, St w T s₀ env m mus news s → Q (.int (h : Int) t) s) : wpAny (model P31 w) A (binaryOp .RShift (.int ((2 * h : Nat) : Int) t) (.int 1 u)) Q E s :=
  @r_shr _ _ _ _ _ _ _ _ _ _ _ _ _ _ _ Z (by lia) fun t s Z => by
    rw [show (((2 * h : Nat) : Int)).fdiv (2 ^ (1 : Int).toNat) = (h : Int) by rw [show (1 : Int).toNat = 1 by rfl, fdiv_pow]; lia]
    exact hq t s Z
theorem pre_div {a b a' b' : Int} {n j p : Nat} (h1 : (2 : Int) ^ n ≤ 2 * b) (h2 : b < 2 ^ n) (h3 : 0 ≤ a) (h4 : a < b * 2 ^ n) (e1 : 2 * j = n + p) (e2 : p = 0 ∧ a' = a ∧ b' = b ∨ p = 1 ∧ a' = a * 2 ∧ b' = b * 2) :
    (2 : Int) ^ (2 * j) ≤ 2 * b' ∧ b' < 2 ^ (2 * j) ∧ 0 ≤ a' ∧ a' < b' * 2 ^ (2 * j) := by
  rw [e1]
  rcases e2 with ⟨rfl, rfl, rfl⟩ | ⟨rfl, rfl, rfl⟩
  · exact ⟨h1, h2, h3, h4⟩
  · rw [Int.pow_succ]
    generalize hX : (2 : Int) ^ n = X at *
    refine ⟨by (clear h3 e1 hX h2 h4; lia), by (clear h3 e1 hX h1 h4; lia), by lia, ?_⟩
    rw [Int.mul_assoc b, ← Int.mul_assoc 2, Int.mul_comm 2 X, Int.mul_assoc X, ← Int.mul_assoc b]
    lia
theorem mid_div {a b : Int} {j : Nat} (hj : 1 ≤ j) (h1 : (2 : Int) ^ (2 * j) ≤ 2 * b) (h2 : b < 2 ^ (2 * j)) (h3 : 0 ≤ a) (h4 : a < b * 2 ^ (2 * j)) :
    (2 : Int) ^ j ≤ 2 * (b / 2 ^ j) ∧ b / 2 ^ j < 2 ^ j ∧ 0 ≤ b % 2 ^ j ∧ b % 2 ^ j < 2 ^ j ∧ b = b / 2 ^ j * 2 ^ j + b % 2 ^ j ∧ 0 ≤ a / 2 ^ j % 2 ^ j ∧ a / 2 ^ j % 2 ^ j < 2 ^ j ∧
      0 ≤ a / 2 ^ (2 * j) ∧ a / 2 ^ (2 * j) < b ∧ 0 ≤ a % 2 ^ j ∧ a % 2 ^ j < 2 ^ j ∧ a / 2 ^ (2 * j) * 2 ^ j + a / 2 ^ j % 2 ^ j = a / 2 ^ j ∧ a / 2 ^ j * 2 ^ j + a % 2 ^ j = a := by
  have kP : (0 : Int) < 2 ^ j := Int.pow_pos (by decide)
  have e0 : (2 : Int) ^ (2 * j) = 2 ^ j * 2 ^ j := by rw [Nat.two_mul, Int.pow_add]
  obtain ⟨i, rfl⟩ : ∃ i, j = i + 1 := ⟨j - 1, by lia⟩
  have e1 : (2 : Int) ^ (i + 1) = 2 ^ i * 2 := Int.pow_succ ..
  have e3 : a / 2 ^ (2 * (i + 1)) = a / 2 ^ (i + 1) / 2 ^ (i + 1) := by rw [e0, Int.ediv_ediv_of_nonneg (Int.le_of_lt kP)]
  refine ⟨?_, Int.ediv_lt_of_lt_mul kP (by (clear h3 hj h1 h4 kP e1 e3; omega)), Int.emod_nonneg _ (Int.ne_of_gt kP), Int.emod_lt_of_pos _ kP, (Int.ediv_mul_add_emod ..).symm, Int.emod_nonneg _ (Int.ne_of_gt kP), Int.emod_lt_of_pos _ kP,
    Int.ediv_nonneg h3 (Int.le_of_lt (Int.pow_pos (by decide))), Int.ediv_lt_of_lt_mul (Int.pow_pos (by decide)) h4, Int.emod_nonneg _ (Int.ne_of_gt kP), Int.emod_lt_of_pos _ kP, ?_, Int.ediv_mul_add_emod ..⟩
  · have : (2 : Int) ^ i ≤ b / 2 ^ (i + 1) := by
      refine Int.le_ediv_of_mul_le kP ?_
      have e4 : (2 : Int) ^ (i + 1) * 2 ^ (i + 1) = 2 * (2 ^ i * 2 ^ (i + 1)) := by rw [e1]; simp only [Int.mul_assoc, Int.mul_comm, Int.mul_left_comm]
      (clear h3 hj h2 h4 kP e1 e3; omega)
    (clear h3 hj h1 h2 h4 kP e0 e1 e3; lia)
  · rw [e3]; exact Int.ediv_mul_add_emod ..
theorem fin_div {a b q1 q2 r r2 X P lo : Int} (h1 : q1 * b + r = X) (h2 : q2 * b + r2 = r * P + lo) (h3 : X * P + lo = a) : (q1 * P + q2) * b + r2 = a := by
  have : (q1 * P + q2) * b + r2 = (q1 * b) * P + (q2 * b + r2) := by rw [Int.add_mul, Int.mul_assoc, Int.mul_comm P, ← Int.mul_assoc]; lia
  rw [this, h2, ← h3, ← h1, Int.add_mul]; lia
theorem end_div {a b a' b' q r : Int} {p : Nat} (e2 : p = 0 ∧ a' = a ∧ b' = b ∨ p = 1 ∧ a' = a * 2 ∧ b' = b * 2) (h : q * b' + r = a') (h0 : 0 ≤ r) (h1 : r < b') :
    (p = 0 → q * b + r = a ∧ r < b) ∧ (p = 1 → q * b + r / 2 = a ∧ 0 ≤ r / 2 ∧ r / 2 < b) := by
  rcases e2 with ⟨rfl, rfl, rfl⟩ | ⟨rfl, rfl, rfl⟩
  · exact ⟨fun _ => ⟨h, h1⟩, by lia⟩
  · refine ⟨by lia, fun _ => ?_⟩
    rw [← Int.mul_assoc] at h
    generalize q * b = y at *
    omega
theorem div1_of {k : Nat} (H : ∀ k', k = k' + 1 → Div2 w T k') : Div1 w T k := by
  intro s₀ A Q a b n ta tb tn g room hh hn hn2 hn1 h1 h2 h3 h4 h
  have hP : (0 : Int) < 2 ^ n := Int.pow_pos (by decide)
  have hb0 : 0 < b := by lia
  have hbz : b ≠ 0 := by (clear room hn hn2 hn1 h1 h2 h3 h4 hP; lia)
  have hba : Builtin.Int.intBits a ≤ n + n := by
    refine bitsN h3 ?_
    have := Int.mul_le_mul_of_nonneg_right (show b ≤ 2 ^ n by lia) (Int.le_of_lt hP)
    rw [Int.pow_add]; (clear room hn hn2 hn1 h1 h2 h3 hP hb0 hbz; omega)
  have hbb := bitsN (Int.le_of_lt hb0) h2
  refine call_fn (i := 1) (binds := [("a", .int a ta), ("b", .int b tb), ("n", .int n tn)]) (by decide) g (by lia) (by rfl) (by rfl) (by rfl) (fun s Z => ?_) (by rfl) (by rfl) (by rfl)
  refine @wpAny_execs_cons _ _ _ _ _ _ _ _ <| @wpAny_If _ _ _ _ _ _ _ _ _ _ <| @wpAny_isTrue_Compare1 _ _ _ _ _ _ _ _ _ _ _ ( @wpAny_BinOp _ _ _ _ _ _ _ _ _ _ <| @MethodCall_ _ _ _ _ _ _ _ _ _ _ _ _ ( @ld _ _ _ _ _ _ _ _ _ _ _ _ Z _ rfl ( @getMethod_int_bit_length _ _ _ _ _ _ _ _ <| @callWith_method0 _ _ _ _ _ _ _ _ _ <| @r_bitlen _ _ _ _ _ _ _ _ _ _ _ _ _ Z fun t s Z => @ld _ _ _ _ _ _ _ _ _ _ _ _ Z _ rfl ( @r_sub _ _ _ _ _ _ _ _ _ _ _ _ _ _ _ Z fun t s Z => @ldg _ _ _ _ _ _ _ _ _ _ _ _ Z _ rfl ( @le_int _ _ _ _ _ _ _ _ _ _ <| @wpAny_truthy_bool _ _ _ _ _ _ ?_) (by rfl) (by rfl) (by rfl) (by decide)) (by rfl) (by rfl) (by decide) (by decide)) (by rfl) (by rfl) (by decide) (by decide)) (by rfl)) (by with_unfolding_all rfl)
  by_cases hc : (Builtin.Int.intBits a : Int) - n ≤ 4000
  · rw [if_pos (by simpa using hc)]
    have hpy : Builtin.divisionGoesByPylong a b = false := by
      obtain ⟨j, rfl⟩ : ∃ j, n = j + 1 := ⟨n - 1, by lia⟩
      refine noPy (n := j) (by rw [Int.pow_succ] at h1; (clear room h3 hb0 hbz hn hn2 hn1 h2 h4 hP hba hbb hc; lia)) (bits_lt (by lia))
    refine @wpAny_execs_cons _ _ _ _ _ _ _ _ <| @wpAny_Return_some _ _ _ _ _ _ _ _ <| @c_call _ _ _ _ _ _ _ _ _ _ <| @ldb _ _ _ _ _ _ _ _ _ _ _ _ Z _ rfl ( @c_blt _ _ _ _ _ _ _ _ _ _ ( @a_cons _ _ _ _ _ _ _ _ _ ( @ld _ _ _ _ _ _ _ _ _ _ _ _ Z _ rfl ( @a_cons _ _ _ _ _ _ _ _ _ ( @ld _ _ _ _ _ _ _ _ _ _ _ _ Z _ rfl ( @args_nil _ _ _ _ _ _ _ <| @r_divmod _ _ _ _ _ _ _ _ _ _ _ _ _ _ _ Z hbz hpy fun d t1 t2 s Z => ?_) (by rfl) (by rfl) (by decide) (by decide)) (by rfl)) (by rfl) (by rfl) (by decide) (by decide)) (by rfl)) (by rfl) (by rfl)) (by rfl) (by rfl) (by rfl) (by rfl) (by decide)
    refine h (a.fdiv b) (a.fmod b) _ d t1 t2 Z.done ?_ ?_ ?_ (Z.get (.head _)) (Z.nw _ (.head _)).2.2.2.1
    · rw [Int.mul_comm]; exact Int.mul_fdiv_add_fmod ..
    · exact Int.fmod_nonneg_of_pos _ hb0
    · exact Int.fmod_lt_of_pos _ hb0
  rw [if_neg (by simpa using hc)]
  obtain ⟨k', rfl⟩ : ∃ k', k = k' + 1 := by
    cases k with
    | zero => exfalso; simp at hn; lia
    | succ k' => exact ⟨k', rfl⟩
  have H : Div2 w T k' := H k' rfl
  rw [Nat.pow_succ] at hn
  have tail : ∀ (a' b' : Int) (j : Nat) (p : Nat) (ta tb tn tp : Tok) (m : Str → Option Value) (s : Shared), St w T s₀ (envF T 1 s₀.heap.objs.size) m [] [] s → m "a" = some (.int a' ta) → m "b" = some (.int b' tb) → m "n" = some (.int ((2 * j : Nat) : Int) tn) → m "pad" = some (.int p tp) →
      2 * j = n + p → (p = 0 ∧ a' = a ∧ b' = b ∨ p = 1 ∧ a' = a * 2 ∧ b' = b * 2) → wpAny (model P31 w) (A.deeper (envF T 1 s₀.heap.objs.size)) (execs ((fBody (fAt 1)).drop 3) (envF T 1 s₀.heap.objs.size)) (fun f s' => Q (match f with | .ret v => v | _ => .none) s') NoE s := by
    intro a' b' j p ta tb tn tp m s Z ma mb mn mp e1 e2
    obtain ⟨k1, k2, k3, k4⟩ := pre_div h1 h2 h3 h4 e1 e2
    have hj : 1 ≤ j ∧ 2 * j ≤ n + 1 := by
      rcases e2 with ⟨q, _⟩ | ⟨q, _⟩ <;> constructor <;> lia
    obtain ⟨l1, l2, l3, l4, l5, l6, l7, l8, l9, l10, l11, l12, l13⟩ := mid_div hj.1 k1 k2 k3 k4
    have hb' : 0 ≤ b' := by lia
    refine @wpAny_execs_cons _ _ _ _ _ _ _ _ <| @wpAny_Assign_Name _ _ _ _ _ _ _ _ _ _ ( @wpAny_BinOp _ _ _ _ _ _ _ _ _ _ <| @ld _ _ _ _ _ _ _ _ _ _ _ _ Z _ mn ( @wpAny_Constant_int _ _ _ _ _ _ _ _ _ <| @r_half _ _ _ _ _ _ _ _ _ _ _ _ _ _ Z.tok fun thalf s Z => @stl _ _ _ _ _ _ _ _ _ _ _ Z _ (fun s Z => ?_) (by rfl) (by rfl) (by rfl)) (by rfl) (by rfl) (by decide) (by decide)) (by rfl)
    refine @wpAny_execs_cons _ _ _ _ _ _ _ _ <| @wpAny_Assign_Name _ _ _ _ _ _ _ _ _ _ ( @wpAny_BinOp _ _ _ _ _ _ _ _ _ _ <| @wpAny_BinOp _ _ _ _ _ _ _ _ _ _ <| @wpAny_Constant_int _ _ _ _ _ _ _ _ _ <| @ld _ _ _ _ _ _ _ _ _ _ _ _ Z.tok _ rfl ( @r_shl' _ _ _ _ _ _ _ _ _ _ _ _ _ _ _ Z.tok (shl1 (by lia)) fun t s Z => @wpAny_Constant_int _ _ _ _ _ _ _ _ _ <| @r_sub _ _ _ _ _ _ _ _ _ _ _ _ _ _ _ Z.tok fun t s Z => @stl _ _ _ _ _ _ _ _ _ _ _ Z _ (fun s Z => ?_) (by rfl) (by rfl) (by rfl)) (by rfl) (by rfl) (by decide) (by decide)) (by rfl)
    refine @wpAny_execs_cons _ _ _ _ _ _ _ _ <| Assign_Tuple_swapped (names := ["b1", "b2"]) <| @Tuple_ _ _ _ _ _ _ _ _ _ <| @a_cons _ _ _ _ _ _ _ _ _ ( @wpAny_BinOp _ _ _ _ _ _ _ _ _ _ <| @ld _ _ _ _ _ _ _ _ _ _ _ _ Z _ mb ( @ld _ _ _ _ _ _ _ _ _ _ _ _ Z _ rfl ( @r_shr' _ _ _ _ _ _ _ _ _ _ _ _ _ _ _ Z fun t s Z => @a_cons _ _ _ _ _ _ _ _ _ ( @wpAny_BinOp _ _ _ _ _ _ _ _ _ _ <| @ld _ _ _ _ _ _ _ _ _ _ _ _ Z _ mb ( @ld _ _ _ _ _ _ _ _ _ _ _ _ Z _ rfl ( @r_mask _ _ _ _ _ _ _ _ _ _ _ _ _ _ _ Z hb' fun t s Z => @args_nil _ _ _ _ _ _ _ <| @r_tuple2 _ _ _ _ _ _ _ _ _ _ _ _ _ Z fun d s Z =>
      @r_unpackItems2 _ _ _ _ _ _ _ _ _ _ _ _ _ _ Z hh (Z.get (.head _)) fun s Z => @assignInOrder_cons _ _ _ _ _ _ _ _ _ <| @wpAny_bindName _ _ _ _ _ _ _ _ <| @stl _ _ _ _ _ _ _ _ _ _ _ Z _ (fun s Z => @assignInOrder_cons _ _ _ _ _ _ _ _ _ <| @wpAny_bindName _ _ _ _ _ _ _ _ <| @stl _ _ _ _ _ _ _ _ _ _ _ Z _ (fun s Z => @assignInOrder_nil _ _ _ _ _ _ ?_) (by rfl) (by rfl) (by rfl)) (by rfl) (by rfl) (by rfl)) (by rfl) (by rfl) (by decide) (by decide)) (by rfl) (by rfl) (by decide) (by decide)) (by rfl)) (by rfl) (by rfl) (by decide) (by decide)) (by rfl) (by rfl) (by decide) (by decide)) (by rfl)
    refine @wpAny_execs_cons _ _ _ _ _ _ _ _ <| @Assign_Tuple _ _ _ _ _ _ _ _ _ _ _ ( @c_call _ _ _ _ _ _ _ _ _ _ <| @ldg _ _ _ _ _ _ _ _ _ _ _ _ Z _ rfl ( r_callfn (i := 2) <| @a_cons _ _ _ _ _ _ _ _ _ ( @wpAny_BinOp _ _ _ _ _ _ _ _ _ _ <| @ld _ _ _ _ _ _ _ _ _ _ _ _ Z _ ma ( @ld _ _ _ _ _ _ _ _ _ _ _ _ Z _ mn ( @r_shr' _ _ _ _ _ _ _ _ _ _ _ _ _ _ _ Z fun t s Z => @a_cons _ _ _ _ _ _ _ _ _ ( @wpAny_BinOp _ _ _ _ _ _ _ _ _ _ <| @wpAny_BinOp _ _ _ _ _ _ _ _ _ _ <| @ld _ _ _ _ _ _ _ _ _ _ _ _ Z _ ma ( @ld _ _ _ _ _ _ _ _ _ _ _ _ Z _ rfl ( @r_shr' _ _ _ _ _ _ _ _ _ _ _ _ _ _ _ Z fun t s Z => @ld _ _ _ _ _ _ _ _ _ _ _ _ Z _ rfl ( @r_mask _ _ _ _ _ _ _ _ _ _ _ _ _ _ _ Z (Int.ediv_nonneg k3 (Int.le_of_lt (Int.pow_pos (by decide)))) fun t s Z =>
      @a_cons _ _ _ _ _ _ _ _ _ ( @ld _ _ _ _ _ _ _ _ _ _ _ _ Z _ mb ( @a_cons _ _ _ _ _ _ _ _ _ ( @ld _ _ _ _ _ _ _ _ _ _ _ _ Z _ rfl ( @a_cons _ _ _ _ _ _ _ _ _ ( @ld _ _ _ _ _ _ _ _ _ _ _ _ Z _ rfl ( @a_cons _ _ _ _ _ _ _ _ _ ( @ld _ _ _ _ _ _ _ _ _ _ _ _ Z _ rfl ( @args_nil _ _ _ _ _ _ _ ⟨(Z.g.fn 2 (by decide)).1, ?_⟩) (by rfl) (by rfl) (by decide) (by decide)) (by rfl)) (by rfl) (by rfl) (by decide) (by decide)) (by rfl)) (by rfl) (by rfl) (by decide) (by decide)) (by rfl)) (by rfl) (by rfl) (by decide) (by decide)) (by rfl)) (by rfl) (by rfl) (by decide) (by decide)) (by rfl) (by rfl) (by decide) (by decide)) (by rfl) (by rfl) (by decide) (by decide)) (by rfl)) (by rfl) (by rfl) (by decide) (by decide)) (by rfl) (by rfl) (by decide) (by decide)) (by rfl)) (by rfl) (by rfl) (by rfl) (by decide)) (by rfl) (by rfl)
    refine H Z.g (by show A.depth + 1 + _ + 2 ≤ _; lia) hh (by lia) (by lia) hj.1 l1 l2 l3 l4 l5 l6 l7 l8 l9 fun q1 r s' d tq1 tr1 l g1 g2 g3 g4 g5 => ?_
    have Z := Z.join1 l ⟨g4, nofun, g5⟩
    refine @r_unpack2 _ _ _ _ _ _ _ _ _ _ _ _ _ _ _ _ _ _ _ _ Z hh (Z.get (.head _)) fun s Z => @stl _ _ _ _ _ _ _ _ _ _ _ Z _ (fun s Z => @stl _ _ _ _ _ _ _ _ _ _ _ Z _ (fun s Z => ?_) (by rfl) (by rfl) (by rfl)) (by rfl) (by rfl) (by rfl)
    refine @wpAny_execs_cons _ _ _ _ _ _ _ _ <| @Assign_Tuple _ _ _ _ _ _ _ _ _ _ _ ( @c_call _ _ _ _ _ _ _ _ _ _ <| @ldg _ _ _ _ _ _ _ _ _ _ _ _ Z _ rfl ( r_callfn (i := 2) <| @a_cons _ _ _ _ _ _ _ _ _ ( @ld _ _ _ _ _ _ _ _ _ _ _ _ Z _ rfl ( @a_cons _ _ _ _ _ _ _ _ _ ( @wpAny_BinOp _ _ _ _ _ _ _ _ _ _ <| @ld _ _ _ _ _ _ _ _ _ _ _ _ Z _ ma ( @ld _ _ _ _ _ _ _ _ _ _ _ _ Z _ rfl ( @r_mask _ _ _ _ _ _ _ _ _ _ _ _ _ _ _ Z k3 fun t s Z =>
      @a_cons _ _ _ _ _ _ _ _ _ ( @ld _ _ _ _ _ _ _ _ _ _ _ _ Z _ mb ( @a_cons _ _ _ _ _ _ _ _ _ ( @ld _ _ _ _ _ _ _ _ _ _ _ _ Z _ rfl ( @a_cons _ _ _ _ _ _ _ _ _ ( @ld _ _ _ _ _ _ _ _ _ _ _ _ Z _ rfl ( @a_cons _ _ _ _ _ _ _ _ _ ( @ld _ _ _ _ _ _ _ _ _ _ _ _ Z _ rfl ( @args_nil _ _ _ _ _ _ _ ⟨(Z.g.fn 2 (by decide)).1, ?_⟩) (by rfl) (by rfl) (by decide) (by decide)) (by rfl)) (by rfl) (by rfl) (by decide) (by decide)) (by rfl)) (by rfl) (by rfl) (by decide) (by decide)) (by rfl)) (by rfl) (by rfl) (by decide) (by decide)) (by rfl)) (by rfl) (by rfl) (by decide) (by decide)) (by rfl) (by rfl) (by decide) (by decide)) (by rfl)) (by rfl) (by rfl) (by decide) (by decide)) (by rfl)) (by rfl) (by rfl) (by rfl) (by decide)) (by rfl) (by rfl)
    refine H Z.g (by show A.depth + 1 + _ + 2 ≤ _; lia) hh (by lia) (by lia) hj.1 l1 l2 l3 l4 l5 l10 l11 g2 g3 fun q2 r2 s' d tq2 tr2 l g1' g2' g3' g4 g5 => ?_
    have Z := Z.join1 l ⟨g4, nofun, g5⟩
    refine @r_unpack2 _ _ _ _ _ _ _ _ _ _ _ _ _ _ _ _ _ _ _ _ Z hh (Z.get (.head _)) fun s Z => @stl _ _ _ _ _ _ _ _ _ _ _ Z _ (fun s Z => @stl _ _ _ _ _ _ _ _ _ _ _ Z _ (fun s Z => ?_) (by rfl) (by rfl) (by rfl)) (by rfl) (by rfl) (by rfl)
    obtain ⟨z1, z2⟩ := end_div e2 (fin_div (X := a' / 2 ^ j) (g1.trans l12) g1' l13) g2' g3'
    have w1 := q_lt (by lia) g1 g3 g2 l8 l9 l6 l7
    have w2 := q_lt (by omega) g1' g3' g2' g2 g3 l10 l11
    have w3 := bitsN w1.1 w1.2
    have ret : ∀ (v : Int) (tv : Tok) (m : Str → Option Value) (news : List (Addr × Obj)) (s : Shared), St w T s₀ (envF T 1 s₀.heap.objs.size) m [] news s → m "r" = some (.int v tv) → m "q1" = some (.int q1 tq1) → m "q2" = some (.int q2 tq2) → m "half_n" = some (.int (j : Int) thalf) →
        (q1 * 2 ^ j + q2) * b + v = a → 0 ≤ v → v < b → wpAny (model P31 w) (A.deeper (envF T 1 s₀.heap.objs.size)) (execs ((fBody (fAt 1)).drop 9) (envF T 1 s₀.heap.objs.size)) (fun f s' => Q (match f with | .ret v => v | _ => .none) s') NoE s := by
      intro v tv m news s Z mr m1 m2 mh x1 x2 x3
      refine @wpAny_execs_cons _ _ _ _ _ _ _ _ <| @wpAny_Return_some _ _ _ _ _ _ _ _ <| @Tuple_ _ _ _ _ _ _ _ _ _ <| @a_cons _ _ _ _ _ _ _ _ _ ( @wpAny_BinOp _ _ _ _ _ _ _ _ _ _ <| @wpAny_BinOp _ _ _ _ _ _ _ _ _ _ <| @ld _ _ _ _ _ _ _ _ _ _ _ _ Z _ m1 ( @ld _ _ _ _ _ _ _ _ _ _ _ _ Z _ mh ( @r_shl' _ _ _ _ _ _ _ _ _ _ _ _ _ _ _ Z (by lia) fun t s Z => @ld _ _ _ _ _ _ _ _ _ _ _ _ Z _ m2 ( @r_glue _ _ _ _ _ _ _ _ _ _ _ _ _ _ _ _ Z w1.1 w2.1 w2.2 fun t s Z => @a_cons _ _ _ _ _ _ _ _ _ ( @ld _ _ _ _ _ _ _ _ _ _ _ _ Z _ mr ( @args_nil _ _ _ _ _ _ _ <| @r_tuple2 _ _ _ _ _ _ _ _ _ _ _ _ _ Z fun d s Z => ?_) (by rfl) (by rfl) (by decide) (by decide)) (by rfl)) (by rfl) (by rfl) (by decide) (by decide)) (by rfl) (by rfl) (by decide) (by decide)) (by rfl) (by rfl) (by decide) (by decide)) (by rfl)
      exact h _ _ _ d _ _ Z.done x1 x2 x3 (Z.get (.head _)) (Z.nw _ (.head _)).2.2.2.1
    refine @wpAny_execs_cons _ _ _ _ _ _ _ _ <| @wpAny_If _ _ _ _ _ _ _ _ _ _ <| @isTrue_plain _ _ _ _ _ _ _ _ ( @ld _ _ _ _ _ _ _ _ _ _ _ _ Z _ mp ( @truthy_int _ _ _ _ _ _ _ _ ?_) (by rfl) (by rfl) (by decide) (by decide)) (by rfl)
    rcases (show p = 0 ∨ p = 1 by rcases e2 with ⟨q, _⟩ | ⟨q, _⟩ <;> simp [q]) with rfl | rfl
    · refine @wpAny_execs_nil _ _ _ _ _ _ ?_
      exact ret _ _ _ _ _ Z rfl rfl rfl rfl (z1 rfl).1 g2' (z1 rfl).2
    · refine @wpAny_execs_cons _ _ _ _ _ _ _ _ <| @wpAny_AugAssign_Name _ _ _ _ _ _ _ _ _ _ _ <| @ldn _ _ _ _ _ _ _ _ _ _ _ Z _ rfl ( @wpAny_Constant_int _ _ _ _ _ _ _ _ _ <| @r_ishr _ _ _ _ _ _ _ _ _ _ _ _ _ _ _ Z.tok (by decide) fun t s Z => ?_) (by rfl) (by rfl) (by decide)
      rw [show (1 : Int).toNat = 1 by rfl, fdiv_pow]
      refine @stl _ _ _ _ _ _ _ _ _ _ _ Z _ (fun s Z => @wpAny_execs_nil _ _ _ _ _ _ ?_) (by rfl) (by rfl) (by rfl)
      exact ret _ _ _ _ _ Z rfl rfl rfl rfl (z2 rfl).1 (z2 rfl).2.1 (z2 rfl).2.2
  refine @wpAny_execs_nil _ _ _ _ _ _ <| @wpAny_execs_cons _ _ _ _ _ _ _ _ <| @wpAny_Assign_Name _ _ _ _ _ _ _ _ _ _ ( @wpAny_BinOp _ _ _ _ _ _ _ _ _ _ <| @ld _ _ _ _ _ _ _ _ _ _ _ _ Z _ rfl ( @wpAny_Constant_int _ _ _ _ _ _ _ _ _ <| @r_and _ _ _ _ _ _ _ _ _ _ _ _ _ _ _ Z.tok fun t s Z => ?_) (by rfl) (by rfl) (by decide) (by decide)) (by rfl)
  rw [band1]
  refine @stl _ _ _ _ _ _ _ _ _ _ _ Z _ (fun s Z => @wpAny_execs_cons _ _ _ _ _ _ _ _ <| @wpAny_If _ _ _ _ _ _ _ _ _ _ <| @isTrue_plain _ _ _ _ _ _ _ _ ( @ld _ _ _ _ _ _ _ _ _ _ _ _ Z _ rfl ( @truthy_int _ _ _ _ _ _ _ _ ?_) (by rfl) (by rfl) (by decide) (by decide)) (by rfl)) (by rfl) (by rfl) (by rfl)
  rcases Nat.mod_two_eq_zero_or_one n with hp | hp
  · rw [hp] at Z ⊢
    refine @wpAny_execs_nil _ _ _ _ _ _ ?_
    exact tail a b (n / 2) 0 _ _ _ _ _ _ Z rfl rfl (by rw [show 2 * (n / 2) = n by lia]; rfl) rfl (by lia) (.inl ⟨rfl, rfl, rfl⟩)
  · rw [hp] at Z ⊢
    refine @wpAny_execs_cons _ _ _ _ _ _ _ _ <| @wpAny_AugAssign_Name _ _ _ _ _ _ _ _ _ _ _ <| @ldn _ _ _ _ _ _ _ _ _ _ _ Z _ rfl ( @wpAny_Constant_int _ _ _ _ _ _ _ _ _ <| @r_ishl _ _ _ _ _ _ _ _ _ _ _ _ _ _ _ Z.tok (by decide) (by lia) fun t s Z => @stl _ _ _ _ _ _ _ _ _ _ _ Z _ (fun s Z => ?_) (by rfl) (by rfl) (by rfl)) (by rfl) (by rfl) (by decide)
    refine @wpAny_execs_cons _ _ _ _ _ _ _ _ <| @wpAny_AugAssign_Name _ _ _ _ _ _ _ _ _ _ _ <| @ldn _ _ _ _ _ _ _ _ _ _ _ Z _ rfl ( @wpAny_Constant_int _ _ _ _ _ _ _ _ _ <| @r_ishl _ _ _ _ _ _ _ _ _ _ _ _ _ _ _ Z.tok (by decide) (by lia) fun t s Z => @stl _ _ _ _ _ _ _ _ _ _ _ Z _ (fun s Z => ?_) (by rfl) (by rfl) (by rfl)) (by rfl) (by rfl) (by decide)
    refine @wpAny_execs_cons _ _ _ _ _ _ _ _ <| @wpAny_AugAssign_Name _ _ _ _ _ _ _ _ _ _ _ <| @ldn _ _ _ _ _ _ _ _ _ _ _ Z _ rfl ( @wpAny_Constant_int _ _ _ _ _ _ _ _ _ <| @r_iadd _ _ _ _ _ _ _ _ _ _ _ _ _ _ _ Z.tok fun t s Z => @stl _ _ _ _ _ _ _ _ _ _ _ Z _ (fun s Z => ?_) (by rfl) (by rfl) (by rfl)) (by rfl) (by rfl) (by decide)
    refine @wpAny_execs_nil _ _ _ _ _ _ ?_
    exact tail (a * 2) (b * 2) (n / 2 + 1) 1 _ _ _ _ _ _ Z rfl rfl (by rw [show ((2 * (n / 2 + 1) : Nat) : Int) = (n : Int) + 1 by lia]; rfl) rfl (by lia) (.inr ⟨rfl, rfl, rfl⟩)
theorem div1_all (k : Nat) : Div1 w T k := by
  induction k with
  | zero => exact div1_of fun k' e => (Nat.succ_ne_zero k' e.symm).elim
  | succ k ih => exact div1_of fun k' e => by obtain rfl : k = k' := by lia
                                              exact div2_of ih
end
end Mine
namespace Mine
open PySem PySem.W PySem.Calls PyProof.Rows
noncomputable def inSt (i : Nat) : Stmt := ((fBody (fAt i))[if i = 3 then 1 else 0]?).getD (.Pass default)
/-- the list has the digits of x at L .. R -/
noncomputable def Put (n x L R : Nat) (xs xs' : Array Value) : Prop := xs'.size = xs.size ∧ (∀ i, (i < L ∨ R ≤ i) → xs'[i]? = xs[i]?) ∧ ∀ i, L ≤ i → i < R → ∃ t, xs'[i]? = some (.int ((x / 2 ^ (n * (i - L)) % 2 ^ n : Nat) : Int) t)
theorem Put.join {n x L M R : Nat} {xs xs1 xs2 : Array Value} (h1 : L ≤ M) (h2 : M ≤ R) (a : Put n (x % 2 ^ (n * (M - L))) L M xs xs1) (b : Put n (x / 2 ^ (n * (M - L))) M R xs1 xs2) : Put n x L R xs xs2 := by
  obtain ⟨a1, a2, a3⟩ := a
  obtain ⟨b1, b2, b3⟩ := b
  refine ⟨b1.trans a1, fun i hi => ?_, fun i hL hR => ?_⟩
  · rw [b2 i (by lia), a2 i (by lia)]
  · by_cases hM : i < M
    · obtain ⟨t, e⟩ := a3 i hL hM
      refine ⟨t, ?_⟩
      rw [b2 i (.inl hM), e]
      congr 3
      obtain ⟨k, hk⟩ : ∃ k, M - L = (i - L) + 1 + k := ⟨M - L - (i - L) - 1, by lia⟩
      rw [hk, Nat.mul_add, Nat.mul_add, Nat.pow_add, Nat.pow_add, Nat.mul_one, Nat.mul_assoc, Nat.mod_mul_right_div_self, Nat.mod_mul_right_mod]
    · obtain ⟨t, e⟩ := b3 i (by lia) hR
      refine ⟨t, ?_⟩
      rw [e]
      congr 3
      rw [Nat.div_div_eq_div_mul, ← Nat.pow_add, ← Nat.mul_add, show M - L + (i - M) = i - L by lia]
noncomputable abbrev fd3 (cn ci ca c' : Addr) (doc pm ct : Value) : FuncData := fnX "inner" "_int2digits.<locals>.inner" (fParams (inSt 3)) (fBody (inSt 3)) (fScope (inSt 3)) [("n", cn), ("inner", ci), ("a_digits", ca)] .none .none doc pm none (.ref c') ct
structure In3 (h : Heap) (F D cn ci ca c' : Addr) (doc pm ct : Value) (n : Nat) (tn : Tok) : Prop where
  f : h.get? F = some { cls := .type "function", data := .func (fd3 cn ci ca c' doc pm ct) }
  code : CodeOk h c' "_int2digits.<locals>.inner"
  cn : h.IsCell cn (some (.int n tn))
  ci : h.IsCell ci (some (.ref F))
  ca : h.IsCell ca (some (.ref D))
theorem cell_ne {h : Heap} {c D : Addr} {o : Obj} {v : Option Value} {xs : Array Value} (x : h.IsCell c v) (hD : h.get? D = some o) (hl : IsL o xs) : c ≠ D := fun q => by
  obtain ⟨oc, e, d⟩ := x
  obtain ⟨_, n, d'⟩ := hl
  rw [q, hD] at e
  rw [Option.some.inj e] at d'
  rw [d] at d'; cases d'
theorem cell_apart {h : Heap} {c c' : Addr} {v v' : Value} (x : h.IsCell c (some v)) (y : h.IsCell c' (some v')) (hne : v ≠ v') : c ≠ c' := fun q => by
  obtain ⟨oc, e, d⟩ := x
  obtain ⟨oc', e', d'⟩ := y
  rw [q, e'] at e
  rw [Option.some.inj e] at d'
  rw [d] at d'
  exact hne (by injection d' with q; injection q)
section
variable {w : World} {T : Tops} {F D cn ci ca c' : Addr} {doc pm ct : Value} {n : Nat} {tn : Tok}
theorem In3.grow {s s' : Shared} {o : Obj} {xs : Array Value} (x : In3 s.heap F D cn ci ca c' doc pm ct n tn) (hD : s.heap.get? D = some o) (hl : IsL o xs) (gr : Grow T (hid s D).heap s'.heap) : In3 s'.heap F D cn ci ca c' doc pm ct n tn := by
  have cell : ∀ {c v}, s.heap.IsCell c v → s'.heap.IsCell c v := fun {c v} y => by
    obtain ⟨oc, e, d⟩ := id y
    exact gr.cell ⟨oc, hid_get e (cell_ne y hD hl), d⟩
  refine ⟨gr.keep (hid_get x.f fun q => ?_) nofun, ?_, cell x.cn, cell x.ci, cell x.ca⟩
  · have := x.f
    rw [q, hD] at this
    have e := hl.1
    rw [Option.some.inj this] at e; injection e with e; exact absurd e (by decide)
  · obtain ⟨oc, vs, t, e, d, r⟩ := x.code
    refine gr.code ⟨oc, vs, t, hid_get e fun q => ?_, d, r⟩
    obtain ⟨_, k, d'⟩ := hl
    rw [q, hD] at e
    rw [Option.some.inj e] at d'
    rw [d] at d'; cases d'
noncomputable def Inn3 (w : World) (T : Tops) (F D cn ci ca c' : Addr) (doc pm ct : Value) (n : Nat) (tn : Tok) (d : Nat) : Prop := ∀ {s : Shared} {A : Around} {Q : Value → Shared → Prop} {x L R : Nat} {xs : Array Value} {o : Obj} {tx tL tR : Tok},
  G w T (hid s D).heap → In3 s.heap F D cn ci ca c' doc pm ct n tn → s.heap.get? D = some o → IsL o xs → A.depth + d + 1 ≤ recursionLimit → R - L ≤ 2 ^ d → L < R → R ≤ xs.size → xs.size ≤ 1000 → x < 2 ^ (n * (R - L)) → 
  (∀ s' o' xs', Later w T (hid s D) s' → s'.heap.get? D = some o' → IsL o' xs' → Put n x L R xs xs' → Q .none s') →
  wpAny (model P31 w) A (call (.ref F) [.int x tx, .int L tL, .int R tR]) Q NoE s
theorem In3.ne {h : Heap} {o : Obj} {xs : Array Value} (x : In3 h F D cn ci ca c' doc pm ct n tn) (hD : h.get? D = some o) (hl : IsL o xs) : F ≠ D := fun q => by
  have := x.f
  rw [q, hD] at this
  have e := hl.1
  rw [Option.some.inj this] at e; injection e with e; exact absurd e (by decide)
theorem enter3 {s : Shared} {x L R : Nat} {xs : Array Value} {o : Obj} {tx tL tR t : Tok} {h₁ : Heap} (g : G w T (hid s D).heap) (I : In3 s.heap F D cn ci ca c' doc pm ct n tn) (hD : s.heap.get? D = some o) (hl : IsL o xs)
    (hn : h₁.Ns s.heap.objs.size (fun y => [(("x" : Str), Value.int x tx), ("L", .int L tL), ("R", .int R tR)].reverse.lookup y)) (hk : ∀ b o, s.heap.get? b = some o → h₁.get? b = some o) :
    St w T (hid s D) (callEnv (fd3 cn ci ca c' doc pm ct) s.heap.objs.size F) (mClo [("n", .int n tn), ("inner", .ref F), ("a_digits", .ref D)] [(("x" : Str), Value.int x tx), ("L", .int L tL), ("R", .int R tR)]) [(D, o)] [] { s with heap := h₁, toks := t } := by
  refine St.enterW g hD hl.mu (fun v e => by obtain ⟨_, k, e'⟩ := hl; rw [e] at e'; cases e') hn hk (fun y c e => ?_) (fun y z c e1 e2 => ?_) (fun y v e => ?_)
  · have := mem_lookup e
    simp only [List.mem_cons, Prod.mk.injEq, List.not_mem_nil, or_false] at this
    rcases this with ⟨rfl, rfl⟩ | ⟨rfl, rfl⟩ | ⟨rfl, rfl⟩
    · exact ⟨_, rfl, I.cn⟩
    · exact ⟨_, rfl, I.ci⟩
    · exact ⟨_, rfl, I.ca⟩
  · have h1 := cell_apart I.cn I.ci nofun
    have h2 := cell_apart I.cn I.ca nofun
    have h3 := cell_apart I.ci I.ca (fun q => I.ne hD hl (by injection q))
    have e1 := mem_lookup e1
    have e2 := mem_lookup e2
    simp only [List.mem_cons, Prod.mk.injEq, List.not_mem_nil, or_false] at e1 e2
    rcases e1 with ⟨rfl, rfl⟩ | ⟨rfl, rfl⟩ | ⟨rfl, rfl⟩ <;> rcases e2 with ⟨rfl, q⟩ | ⟨rfl, q⟩ | ⟨rfl, q⟩ <;> first | rfl | exact absurd q h1 | exact absurd q h2 | exact absurd q h3 | exact absurd q.symm h1 | exact absurd q.symm h2 | exact absurd q.symm h3
  · have := mem_lookup e
    simp only [List.mem_cons, Prod.mk.injEq, List.not_mem_nil, or_false] at this
    rcases this with ⟨rfl, _⟩ | ⟨rfl, _⟩ | ⟨rfl, _⟩ <;> (show List.lookup _ (fScope (inSt 3)).names ≠ _; decide)
theorem inn3_step (hn : n ≤ 40000) {d : Nat} (hd10 : d ≤ 5) (H : ∀ d', d = d' + 1 → Inn3 w T F D cn ci ca c' doc pm ct n tn d') : Inn3 w T F D cn ci ca c' doc pm ct n tn d := by
  intro s₀ A Q x L R xs o tx tL tR g I hD hl room hd hLR hR hz hx h
  have h10 : (2 : Nat) ^ d ≤ 2 ^ 5 := Nat.pow_le_pow_right (by decide) hd10
  have gs : G w T s₀.heap := g.keeps fun b o e => of_hideAll _ e
  refine call_clo (fd := fd3 cn ci ca c' doc pm ct) (binds := [("x", .int x tx), ("L", .int L tL), ("R", .int R tR)]) gs (by lia) I.f rfl I.code.rec' rfl (by rfl) (by rfl) (by rfl) (fun h₁ t hn₁ hk => ?_) (by rfl) (by rfl) (by rfl)
  have Z := enter3 (t := t) g I hD hl hn₁ hk
  obtain ⟨s, hs⟩ := hide_eq ({ s₀ with heap := h₁, toks := t } : Shared)
  rw [hs] at Z ⊢
  clear hs
  refine @wpAny_execs_cons _ _ _ _ _ _ _ _ <| @wpAny_If _ _ _ _ _ _ _ _ _ _ <| @wpAny_isTrue_Compare1 _ _ _ _ _ _ _ _ _ _ _ ( @wpAny_BinOp _ _ _ _ _ _ _ _ _ _ <| @ld _ _ _ _ _ _ _ _ _ _ _ _ Z _ rfl ( @wpAny_Constant_int _ _ _ _ _ _ _ _ _ <| @r_add _ _ _ _ _ _ _ _ _ _ _ _ _ _ _ Z.tok fun t s Z => @ld _ _ _ _ _ _ _ _ _ _ _ _ Z _ rfl ( @eq_int _ _ _ _ _ _ _ _ _ _ <| @wpAny_truthy_bool _ _ _ _ _ _ ?_) (by rfl) (by rfl) (by decide) (by decide)) (by rfl) (by rfl) (by decide) (by decide)) (by with_unfolding_all rfl)
  by_cases hb : L + 1 = R
  · subst hb
    rw [if_pos (by simp)]
    refine @wpAny_execs_cons _ _ _ _ _ _ _ _ <| @wpAny_Assign_Subscript _ _ _ _ _ _ _ _ _ _ _ ( @ld _ _ _ _ _ _ _ _ _ _ _ _ Z _ rfl ( @ld _ _ _ _ _ _ _ _ _ _ _ _ Z _ rfl ( @ld _ _ _ _ _ _ _ _ _ _ _ _ Z _ rfl ( @wpAny_setItem_list _ _ _ _ _ _ _ _ _ _ _ (hl.list (Z.getM (.head _))) (by lia) (by lia) (by lia) fun h' hl' hs => ?_) (by rfl) (by rfl) (by decide) (by decide)) (by rfl) (by rfl) (by decide) (by decide)) (by rfl) (by rfl) (by decide) (by decide)) (by rfl)
    obtain ⟨o', ho', hlo'⟩ := isL_of hl'
    have Z := Z.turn (t := s.toks) (SameBut.kp hs) ho' hlo'.mu
    refine @wpAny_execs_cons _ _ _ _ _ _ _ _ <| @wpAny_Return_none _ _ _ _ _ _ _ ?_
    refine h _ o' _ Z.done ho' hlo' ⟨by simp, fun i hi => ?_, fun i h1 h2 => ⟨tx, ?_⟩⟩
    · rw [Int.toNat_natCast, Array.getElem?_setIfInBounds_ne (by lia)]
    · obtain rfl : i = L := by lia
      rw [Int.toNat_natCast, Array.getElem?_setIfInBounds_self_of_lt (by lia)]
      simp only [Nat.sub_self, Nat.mul_zero, Nat.pow_zero, Nat.div_one]
      rw [show i + 1 - i = 1 by lia, Nat.mul_one] at hx
      rw [Nat.mod_eq_of_lt hx]
  rw [if_neg (by simp; (clear hn hd10 room hd hLR hR hz hx h10; lia))]
  obtain ⟨d', rfl⟩ : ∃ d', d = d' + 1 := by
    cases d with
    | zero => exfalso; simp at hd; lia
    | succ d' => exact ⟨d', rfl⟩
  have H : Inn3 w T F D cn ci ca c' doc pm ct n tn d' := H d' rfl
  rw [Nat.pow_succ] at hd h10
  generalize hXe : 2 ^ d' = X at hd h10
  refine @wpAny_execs_nil _ _ _ _ _ _ <| @wpAny_execs_cons _ _ _ _ _ _ _ _ <| @wpAny_Assign_Name _ _ _ _ _ _ _ _ _ _ ( @wpAny_BinOp _ _ _ _ _ _ _ _ _ _ <| @wpAny_BinOp _ _ _ _ _ _ _ _ _ _ <| @ld _ _ _ _ _ _ _ _ _ _ _ _ Z _ rfl ( @ld _ _ _ _ _ _ _ _ _ _ _ _ Z _ rfl ( @n_add _ _ _ _ _ _ _ _ _ _ _ _ _ _ _ Z fun t s Z => @wpAny_Constant_int _ _ _ _ _ _ _ _ _ <| @n_half _ _ _ _ _ _ _ _ _ _ _ _ _ _ Z.tok fun t s Z => @stl _ _ _ _ _ _ _ _ _ _ _ Z _ (fun s Z => ?_) (by rfl) (by rfl) (by rfl)) (by rfl) (by rfl) (by decide) (by decide)) (by rfl) (by rfl) (by decide) (by decide)) (by rfl)
  obtain ⟨M, hM⟩ : ∃ M, M = (L + R) / 2 := ⟨_, rfl⟩
  rw [← hM] at Z
  refine @wpAny_execs_cons _ _ _ _ _ _ _ _ <| @wpAny_Assign_Name _ _ _ _ _ _ _ _ _ _ ( @wpAny_BinOp _ _ _ _ _ _ _ _ _ _ <| @wpAny_BinOp _ _ _ _ _ _ _ _ _ _ <| @ld _ _ _ _ _ _ _ _ _ _ _ _ Z _ rfl ( @ld _ _ _ _ _ _ _ _ _ _ _ _ Z _ rfl ( @n_sub _ _ _ _ _ _ _ _ _ _ _ _ _ _ _ (by (clear hn hR hz hx hb hd10 room hXe hd h10; lia)) Z fun t s Z => @ld _ _ _ _ _ _ _ _ _ _ _ _ Z _ rfl ( @n_mul _ _ _ _ _ _ _ _ _ _ _ _ _ _ _ (smallMul (.inr (by lia))) Z fun t s Z => @stl _ _ _ _ _ _ _ _ _ _ _ Z _ (fun s Z => ?_) (by rfl) (by rfl) (by rfl)) (by rfl) (by rfl) (by decide) (by decide)) (by rfl) (by rfl) (by decide) (by decide)) (by rfl) (by rfl) (by decide) (by decide)) (by rfl)
  refine @wpAny_execs_cons _ _ _ _ _ _ _ _ <| @wpAny_Assign_Name _ _ _ _ _ _ _ _ _ _ ( @wpAny_BinOp _ _ _ _ _ _ _ _ _ _ <| @ld _ _ _ _ _ _ _ _ _ _ _ _ Z _ rfl ( @ld _ _ _ _ _ _ _ _ _ _ _ _ Z _ rfl ( @n_shr _ _ _ _ _ _ _ _ _ _ _ _ _ _ _ Z fun t s Z => @stl _ _ _ _ _ _ _ _ _ _ _ Z _ (fun s Z => ?_) (by rfl) (by rfl) (by rfl)) (by rfl) (by rfl) (by decide) (by decide)) (by rfl) (by rfl) (by decide) (by decide)) (by rfl)
  have hk : (M - L) * n ≤ 32 * 40000 := Nat.mul_le_mul (by (clear hn hR hz hx hb hd10 room hXe; lia)) hn
  have hk2 : n * (R - L) ≤ 40000 * 64 := Nat.mul_le_mul hn (by (clear hn hLR hR hz hx hb hd10 room hXe hM hk; lia))
  have hbits : Builtin.Int.intBits ((x / 2 ^ ((M - L) * n) : Nat) : Int) ≤ n * (R - L) := bitsNat (Nat.lt_of_le_of_lt (Nat.div_le_self ..) hx)
  have hlow : x % 2 ^ ((M - L) * n) < 2 ^ (n * (M - L)) := by rw [Nat.mul_comm n]; exact Nat.mod_lt _ (Nat.two_pow_pos _)
  have hup : x / 2 ^ ((M - L) * n) < 2 ^ (n * (R - M)) := by
    rw [Nat.div_lt_iff_lt_mul (Nat.two_pow_pos _), ← Nat.pow_add, Nat.mul_comm _ n, ← Nat.mul_add, show R - M + (M - L) = R - L by (clear hn hR hz hx hb hd10 room hXe hk hk2 hbits hlow; lia)]; exact hx
  refine @wpAny_execs_cons _ _ _ _ _ _ _ _ <| @wpAny_Assign_Name _ _ _ _ _ _ _ _ _ _ ( @wpAny_BinOp _ _ _ _ _ _ _ _ _ _ <| @ld _ _ _ _ _ _ _ _ _ _ _ _ Z _ rfl ( @wpAny_BinOp _ _ _ _ _ _ _ _ _ _ <| @ld _ _ _ _ _ _ _ _ _ _ _ _ Z _ rfl ( @ld _ _ _ _ _ _ _ _ _ _ _ _ Z _ rfl ( @n_shl _ _ _ _ _ _ _ _ _ _ _ _ _ _ _ (by (clear hn hLR hR hz hx hb hd10 room hXe hd h10 hM hlow hup; omega)) Z fun t s Z => @n_xor _ _ _ _ _ _ _ _ _ _ _ _ _ _ _ Z fun t s Z => @stl _ _ _ _ _ _ _ _ _ _ _ Z _ (fun s Z => ?_) (by rfl) (by rfl) (by rfl)) (by rfl) (by rfl) (by decide) (by decide)) (by rfl) (by rfl) (by decide) (by decide)) (by rfl) (by rfl) (by decide) (by decide)) (by rfl)
  refine @wpAny_execs_cons _ _ _ _ _ _ _ _ <| @wpAny_Expr _ _ _ _ _ _ _ _ ( @c_call _ _ _ _ _ _ _ _ _ _ <| @ld _ _ _ _ _ _ _ _ _ _ _ _ Z _ rfl ( c_def (fd := fd3 cn ci ca c' doc pm ct) rfl <| @a_cons _ _ _ _ _ _ _ _ _ ( @ld _ _ _ _ _ _ _ _ _ _ _ _ Z _ rfl ( @a_cons _ _ _ _ _ _ _ _ _ ( @ld _ _ _ _ _ _ _ _ _ _ _ _ Z _ rfl ( @a_cons _ _ _ _ _ _ _ _ _ ( @ld _ _ _ _ _ _ _ _ _ _ _ _ Z _ rfl ( @args_nil _ _ _ _ _ _ _ ⟨(I.grow hD hl Z.gr).f, ?_⟩) (by rfl) (by rfl) (by decide) (by decide)) (by rfl)) (by rfl) (by rfl) (by decide) (by decide)) (by rfl)) (by rfl) (by rfl) (by decide) (by decide)) (by rfl)) (by rfl) (by rfl) (by decide) (by decide)) (by rfl) (by rfl)
  refine H Z.hideG (I.grow hD hl Z.gr) (Z.getM (.head _)) hl (by show A.depth + 1 + _ + 1 ≤ _; lia) (by rw [hXe]; lia) (by lia) (by (clear hn hz hx hb hd10 room hXe hd h10 hk hk2 hbits hlow hup; lia)) hz hlow fun s' o1 xs1 l ho1 hl1 P1 => ?_
  have Z := Z.turnK l ho1 hl1.mu
  refine @wpAny_execs_cons _ _ _ _ _ _ _ _ <| @wpAny_Expr _ _ _ _ _ _ _ _ ( @c_call _ _ _ _ _ _ _ _ _ _ <| @ld _ _ _ _ _ _ _ _ _ _ _ _ Z _ rfl ( c_def (fd := fd3 cn ci ca c' doc pm ct) rfl <| @a_cons _ _ _ _ _ _ _ _ _ ( @ld _ _ _ _ _ _ _ _ _ _ _ _ Z _ rfl ( @a_cons _ _ _ _ _ _ _ _ _ ( @ld _ _ _ _ _ _ _ _ _ _ _ _ Z _ rfl ( @a_cons _ _ _ _ _ _ _ _ _ ( @ld _ _ _ _ _ _ _ _ _ _ _ _ Z _ rfl ( @args_nil _ _ _ _ _ _ _ ⟨(I.grow hD hl Z.gr).f, ?_⟩) (by rfl) (by rfl) (by decide) (by decide)) (by rfl)) (by rfl) (by rfl) (by decide) (by decide)) (by rfl)) (by rfl) (by rfl) (by decide) (by decide)) (by rfl)) (by rfl) (by rfl) (by decide) (by decide)) (by rfl) (by rfl)
  refine H Z.hideG (I.grow hD hl Z.gr) (Z.getM (.head _)) hl1 (by show A.depth + 1 + _ + 1 ≤ _; omega) (by rw [hXe]; (clear hn hR hz hx hb hd10 room hXe h10 hk hk2 hbits hlow hup; lia)) (by lia) (by rw [P1.1]; lia) (by rw [P1.1]; exact hz) hup fun s' o2 xs2 l ho2 hl2 P2 => ?_
  have Z := Z.turnK l ho2 hl2.mu
  rw [Nat.mul_comm (M - L) n] at P1 P2
  exact @wpAny_execs_nil _ _ _ _ _ _ (h _ o2 xs2 Z.done ho2 hl2 (P1.join (by omega) (by lia) P2))
theorem inn3 (hn : n ≤ 40000) : ∀ d, d ≤ 5 → Inn3 w T F D cn ci ca c' doc pm ct n tn d
  | 0, h => inn3_step hn h fun d' e => (Nat.succ_ne_zero d' e.symm).elim
  | d + 1, h => inn3_step hn h fun d' e => by obtain rfl : d = d' := by (clear hn h; lia)
                                              exact inn3 hn d (by lia)
theorem size_rep (k : Nat) (v : Value) : (List.replicate k [v]).flatten.toArray.size = k := by simp
theorem s_int2digits {s₀ : Shared} {A : Around} {Q : Value → Shared → Prop} {a n : Nat} {ta tn : Tok} (g : G w T s₀.heap) (room : A.depth + 7 ≤ recursionLimit) (hn : n ≤ 40000) (hn1 : 1 ≤ n) (hcnt : (Builtin.Int.intBits (a : Int) + n - 1) / n ≤ 32)
    (h : ∀ s' D o vs, Later w T s₀ s' → s'.heap.get? D = some o → s₀.heap.get? D = none → IsL o vs → vs.size = (Builtin.Int.intBits (a : Int) + n - 1) / n → (∀ i, i < vs.size → ∃ t, vs[i]? = some (.int ((a / 2 ^ (n * i) % 2 ^ n : Nat) : Int) t)) → Q (.ref D) s') :
    wpAny (model P31 w) A (call (.ref (T.f 3)) [.int a ta, .int n tn]) Q NoE s₀ := by
  refine call_fn (i := 3) (binds := [("a", .int a ta), ("n", .int n tn)]) (by decide) g (by lia) (by rfl) (by rfl) (by rfl) (fun s Z => ?_) (by rfl) (by rfl) (by rfl)
  refine @wpAny_execs_cons _ _ _ _ _ _ _ _ <| @wpAny_Assign_Name _ _ _ _ _ _ _ _ _ _ ( @wpAny_BinOp _ _ _ _ _ _ _ _ _ _ <| @List_ _ _ _ _ _ _ _ _ <| @a_cons _ _ _ _ _ _ _ _ _ ( @wpAny_Constant_int _ _ _ _ _ _ _ _ _ <| @args_nil _ _ _ _ _ _ _ <| @r_newlist _ _ _ _ _ _ _ _ _ _ _ _ Z.tok (by simp) fun l s Z => @wpAny_BinOp _ _ _ _ _ _ _ _ _ _ <| @wpAny_BinOp _ _ _ _ _ _ _ _ _ _ <| @wpAny_BinOp _ _ _ _ _ _ _ _ _ _ <| @MethodCall_ _ _ _ _ _ _ _ _ _ _ _ _ ( @ld _ _ _ _ _ _ _ _ _ _ _ _ Z _ rfl ( @getMethod_int_bit_length _ _ _ _ _ _ _ _ <| @callWith_method0 _ _ _ _ _ _ _ _ _ <| @r_bitlen _ _ _ _ _ _ _ _ _ _ _ _ _ Z fun t s Z =>
    @ld _ _ _ _ _ _ _ _ _ _ _ _ Z _ rfl ( @n_add _ _ _ _ _ _ _ _ _ _ _ _ _ _ _ Z fun t s Z => @wpAny_Constant_int _ _ _ _ _ _ _ _ _ <| n_sub (b := 1) (by lia) Z.tok fun t s Z => @ld _ _ _ _ _ _ _ _ _ _ _ _ Z _ rfl ( @n_fdiv _ _ _ _ _ _ _ _ _ _ _ _ _ _ _ Z (by lia) (by lia) fun t s Z => @r_rep _ _ _ _ _ _ _ _ _ _ _ _ _ _ _ _ _ Z (Z.get (.head _)) (.int _ _) (by omega) fun D o xs s Z hlo hxs => @stc _ _ _ _ _ _ _ _ _ _ _ _ Z _ rfl (by lia) (fun s Z => ?_) (by rfl) (by rfl)) (by rfl) (by rfl) (by decide) (by decide)) (by rfl) (by rfl) (by decide) (by decide)) (by rfl) (by rfl) (by decide) (by decide)) (by rfl)) (by rfl)) (by rfl)
  have hsz : xs.size = (Builtin.Int.intBits (a : Int) + n - 1) / n := by rw [hxs]; simp
  refine @wpAny_execs_cons _ _ _ _ _ _ _ _ <| @nestDef_K _ _ _ _ _ _ _ _ _ _ _ (by rfl) (by rfl) (by rfl) <| r_nest (c := T.cd 3) (P := T.p1) (q := "_int2digits.<locals>.inner") (clos := [("n", s₀.heap.objs.size + 1), ("inner", s₀.heap.objs.size + 3), ("a_digits", s₀.heap.objs.size + 2)]) Z (by rfl) (by rfl) (.inl rfl) Z.g.t1 (fun h' gr kp t1 => ?_) (by rfl) fun F c' doc pm ct sA ZA hc' => @stcK _ _ _ _ _ _ _ _ _ _ _ _ ZA _ rfl (by lia) (fun s Z hk => ?_) (by rfl) (by rfl)
  · obtain ⟨ps, hP, hps⟩ := tab_ps Z.g.t1
    exact Z.g.grow gr t1 (Z.g.t2.keepBut (fun q => Z.g.ok.pp q.symm) hP hps kp)
  have hc' := hc'.keepCell (ZA.cel "inner" (s₀.heap.objs.size + 3) rfl).1 hk
  clear hk ZA
  have ret : ∀ (o : Obj) (xs' : Array Value) (news : List (Addr × Obj)) (s : Shared) (m : Str → Option Value), m "a_digits" = some (.ref D) → St w T s₀ (envF T 3 s₀.heap.objs.size) m [(D, o)] news s → IsL o xs' → xs'.size = xs.size → (∀ i, i < xs'.size → ∃ t, xs'[i]? = some (.int ((a / 2 ^ (n * i) % 2 ^ n : Nat) : Int) t)) →
      wpAny (model P31 w) (A.deeper (envF T 3 s₀.heap.objs.size)) (execs ((fBody (fAt 3)).drop 3) (envF T 3 s₀.heap.objs.size)) (fun f s' => Q (match f with | .ret v => v | _ => .none) s') NoE s := by
    intro o xs' news s m hm Z hlo e1 e2
    refine @wpAny_execs_cons _ _ _ _ _ _ _ _ <| @wpAny_Return_some _ _ _ _ _ _ _ _ <| @ld _ _ _ _ _ _ _ _ _ _ _ _ Z _ hm (?_) (by rfl) (by rfl) (by decide) (by decide)
    exact h _ D o xs' Z.done (Z.getM (.head _)) (Z.mu _ (.head _)).2.2.2.1 hlo (e1.trans hsz) e2
  have c1 := Z.cel "n" (s₀.heap.objs.size + 1) rfl
  have c2 := Z.cel "inner" (s₀.heap.objs.size + 3) rfl
  have c3 := Z.cel "a_digits" (s₀.heap.objs.size + 2) rfl
  have I : In3 s.heap F D (s₀.heap.objs.size + 1) (s₀.heap.objs.size + 3) (s₀.heap.objs.size + 2) c' doc pm ct n tn := ⟨Z.get (.head _), hc', c1.1, c2.1, c3.1⟩
  refine @wpAny_execs_cons _ _ _ _ _ _ _ _ <| @wpAny_If _ _ _ _ _ _ _ _ _ _ <| @isTrue_plain _ _ _ _ _ _ _ _ ( @ld _ _ _ _ _ _ _ _ _ _ _ _ Z _ rfl ( @truthy_int _ _ _ _ _ _ _ _ ?_) (by rfl) (by rfl) (by decide) (by decide)) (by rfl)
  by_cases ha : a = 0
  · subst ha
    refine @wpAny_execs_nil _ _ _ _ _ _ ?_
    refine ret o xs _ _ _ rfl Z hlo rfl fun i hi => ?_
    rw [hsz] at hi
    have : (Builtin.Int.intBits ((0 : Nat) : Int) + n - 1) / n = 0 := by
      have e : Builtin.Int.intBits ((0 : Nat) : Int) = 0 := by decide
      rw [e]; exact Nat.div_eq_of_lt (by lia)
    (clear room hn hn1 hcnt c1 c2 c3; omega)
  · rw [if_pos (by simpa using ha)]
    have hbit : (a : Nat) < 2 ^ Builtin.Int.intBits (a : Int) := by simpa using bits_lt (Nat.le_refl (Builtin.Int.intBits (a : Int)))
    have hb1 : 1 ≤ Builtin.Int.intBits (a : Int) := by
      refine Nat.one_le_iff_ne_zero.mpr fun e => ?_
      rw [e] at hbit; simp at hbit; exact ha hbit
    have hcov : Builtin.Int.intBits (a : Int) ≤ n * ((Builtin.Int.intBits (a : Int) + n - 1) / n) := by
      have := Nat.div_add_mod (Builtin.Int.intBits (a : Int) + n - 1) n
      have := Nat.mod_lt (Builtin.Int.intBits (a : Int) + n - 1) hn1
      (clear room hn hn1 hcnt hsz c1 c2 c3 ha hbit hb1; omega)
    have hc0 : 0 < xs.size := by
      rw [hsz]
      refine Nat.pos_of_ne_zero fun e => ?_
      rw [e] at hcov; lia
    refine @wpAny_execs_cons _ _ _ _ _ _ _ _ <| @wpAny_Expr _ _ _ _ _ _ _ _ ( @c_call _ _ _ _ _ _ _ _ _ _ <| @ld _ _ _ _ _ _ _ _ _ _ _ _ Z _ rfl ( c_def (fd := fd3 _ _ _ c' doc pm ct) rfl <| @a_cons _ _ _ _ _ _ _ _ _ ( @ld _ _ _ _ _ _ _ _ _ _ _ _ Z _ rfl ( @a_cons _ _ _ _ _ _ _ _ _ ( @wpAny_Constant_int _ _ _ _ _ _ _ _ _ <| @a_cons _ _ _ _ _ _ _ _ _ ( @c_call _ _ _ _ _ _ _ _ _ _ <| @ldb _ _ _ _ _ _ _ _ _ _ _ _ Z.tok _ rfl ( @c_blt _ _ _ _ _ _ _ _ _ _ ( @a_cons _ _ _ _ _ _ _ _ _ ( @ld _ _ _ _ _ _ _ _ _ _ _ _ Z.tok _ rfl ( @args_nil _ _ _ _ _ _ _ <| @call_len_list _ _ _ _ _ _ _ _ (hlo.list (Z.getM (.head _))) (by lia) <| @args_nil _ _ _ _ _ _ _ ⟨Z.get (.head _), ?_⟩) (by rfl) (by rfl) (by decide) (by decide)) (by rfl)) (by rfl) (by rfl)) (by rfl) (by rfl) (by rfl) (by rfl) (by decide)) (by rfl)) (by rfl)) (by rfl) (by rfl) (by decide) (by decide)) (by rfl)) (by rfl) (by rfl) (by decide) (by decide)) (by rfl) (by rfl)
    have Z2 := Z.tok (t := s.toks + 1 + 1 + 1)
    refine inn3 hn 5 (by decide) (R := xs.size) (L := 0) (xs := xs) Z2.hideG I (Z.getM (.head _)) hlo (by show A.depth + 1 + 5 + 1 ≤ _; lia) (by lia) hc0 (Nat.le_refl _) (by lia) (Nat.lt_of_lt_of_le hbit (Nat.pow_le_pow_right (by decide) (by rw [hsz]; exact hcov))) fun s' o1 xs1 l ho1 hl1 P1 => ?_
    have Z3 := Z2.turnK l ho1 hl1.mu
    refine @wpAny_execs_nil _ _ _ _ _ _ ?_
    refine ret o1 xs1 _ _ _ rfl Z3 hl1 P1.1 fun i hi => ?_
    have := P1.2.2 i (Nat.zero_le _) (by rw [← P1.1]; exact hi)
    simpa using this
end
end Mine
namespace Mine
open PySem PySem.W PySem.Calls PyProof.Rows
noncomputable def dval (n : Nat) : List Nat → Nat
  | [] => 0
  | d :: r => d + 2 ^ n * dval n r
theorem dval_append (n : Nat) : ∀ a b : List Nat, dval n (a ++ b) = dval n a + 2 ^ (n * a.length) * dval n b
  | [], b => by simp [dval]
  | d :: r, b => by
    show d + 2 ^ n * dval n (r ++ b) = d + 2 ^ n * dval n r + 2 ^ (n * (r.length + 1)) * dval n b
    rw [dval_append n r b, Nat.mul_add, ← Nat.mul_assoc, ← Nat.pow_add, Nat.mul_add, Nat.mul_one, Nat.add_comm n]; lia
theorem dval_lt (n : Nat) : ∀ a : List Nat, (∀ d ∈ a, d < 2 ^ n) → dval n a < 2 ^ (n * a.length)
  | [], _ => by simp [dval]
  | d :: r, h => by
    have h1 := h d (.head _)
    have h2 := dval_lt n r fun x hx => h x (.tail _ hx)
    show d + 2 ^ n * dval n r < 2 ^ (n * (r.length + 1))
    have e : 2 ^ (n * (r.length + 1)) = 2 ^ n * 2 ^ (n * r.length) := by rw [Nat.mul_add, Nat.mul_one, Nat.add_comm, Nat.pow_add]
    have h3 : 2 ^ n * (dval n r + 1) ≤ 2 ^ n * 2 ^ (n * r.length) := Nat.mul_le_mul_left _ h2
    rw [Nat.mul_add] at h3
    lia
noncomputable abbrev fd4 (cn ci cd c' : Addr) (doc pm ct : Value) : FuncData := fnX "inner" "_digits2int.<locals>.inner" (fParams (inSt 4)) (fBody (inSt 4)) (fScope (inSt 4)) [("n", cn), ("inner", ci), ("digits", cd)] .none .none doc pm none (.ref c') ct
structure In4 (h : Heap) (F D cn ci cd c' : Addr) (doc pm ct : Value) (n : Nat) (tn : Tok) : Prop where
  f : h.get? F = some { cls := .type "function", data := .func (fd4 cn ci cd c' doc pm ct) }
  code : CodeOk h c' "_digits2int.<locals>.inner"
  cn : h.IsCell cn (some (.int n tn))
  ci : h.IsCell ci (some (.ref F))
  cd : h.IsCell cd (some (.ref D))
  fd : F ≠ D
section
variable {w : World} {T : Tops} {F D cn ci cd c' : Addr} {doc pm ct : Value} {n : Nat} {tn : Tok}
theorem In4.grow {h h' : Heap} (x : In4 h F D cn ci cd c' doc pm ct n tn) (gr : Grow T h h') : In4 h' F D cn ci cd c' doc pm ct n tn :=
  ⟨gr.keep x.f nofun, gr.code x.code, gr.cell x.cn, gr.cell x.ci, gr.cell x.cd, x.fd⟩
noncomputable def HasInts (vs : Array Value) (ds : List Nat) : Prop := vs.size = ds.length ∧ ∀ i, i < ds.length → ∃ t, vs[i]? = some (.int ((ds.getD i 0 : Nat) : Int) t)
noncomputable def Inn4 (w : World) (T : Tops) (F D cn ci cd c' : Addr) (doc pm ct : Value) (n : Nat) (tn : Tok) (d : Nat) : Prop := ∀ {s : Shared} {A : Around} {Q : Value → Shared → Prop} {L R : Nat} {vs : Array Value} {ds : List Nat} {tL tR : Tok},
  G w T s.heap → In4 s.heap F D cn ci cd c' doc pm ct n tn → s.heap.IsList D vs → HasInts vs ds → A.depth + d + 1 ≤ recursionLimit → R - L ≤ 2 ^ d → L < R → R ≤ ds.length → ds.length ≤ 1000 → (∀ x ∈ ds, x < 2 ^ n) →
  (∀ s' t, Later w T s s' → Q (.int ((dval n ((ds.drop L).take (R - L)) : Nat) : Int) t) s') →
  wpAny (model P31 w) A (call (.ref F) [.int L tL, .int R tR]) Q NoE s
theorem inn4_step (hn : n ≤ 40000) {d : Nat} (hd10 : d ≤ 5) (H : ∀ d', d = d' + 1 → Inn4 w T F D cn ci cd c' doc pm ct n tn d') : Inn4 w T F D cn ci cd c' doc pm ct n tn d := by
  intro s₀ A Q L R vs ds tL tR g I hl hv room hd hLR hR hz hx h
  have h10 : (2 : Nat) ^ d ≤ 2 ^ 5 := Nat.pow_le_pow_right (by decide) hd10
  refine call_clo (fd := fd4 cn ci cd c' doc pm ct) (binds := [("L", .int L tL), ("R", .int R tR)]) g (by lia) I.f rfl I.code.rec' rfl (by rfl) (by rfl) (by rfl) (fun h₁ t hn₁ hk => ?_) (by rfl) (by rfl) (by rfl)
  have Z : St w T s₀ (callEnv (fd4 cn ci cd c' doc pm ct) s₀.heap.objs.size F) (mClo [("n", .int n tn), ("inner", .ref F), ("digits", .ref D)] [(("L" : Str), Value.int L tL), ("R", .int R tR)]) [] [] { s₀ with heap := h₁, toks := t } := by
    refine St.enterR g hn₁ hk (fun y c e => ?_) (fun y z c e1 e2 => ?_) (fun y v e => ?_)
    · have := mem_lookup e
      simp only [List.mem_cons, Prod.mk.injEq, List.not_mem_nil, or_false] at this
      rcases this with ⟨rfl, rfl⟩ | ⟨rfl, rfl⟩ | ⟨rfl, rfl⟩
      · exact ⟨_, rfl, I.cn⟩
      · exact ⟨_, rfl, I.ci⟩
      · exact ⟨_, rfl, I.cd⟩
    · have h1 := cell_apart I.cn I.ci nofun
      have h2 := cell_apart I.cn I.cd nofun
      have h3 := cell_apart I.ci I.cd (fun q => I.fd (by injection q))
      have e1 := mem_lookup e1
      have e2 := mem_lookup e2
      simp only [List.mem_cons, Prod.mk.injEq, List.not_mem_nil, or_false] at e1 e2
      rcases e1 with ⟨rfl, rfl⟩ | ⟨rfl, rfl⟩ | ⟨rfl, rfl⟩ <;> rcases e2 with ⟨rfl, q⟩ | ⟨rfl, q⟩ | ⟨rfl, q⟩ <;> first | rfl | exact absurd q h1 | exact absurd q h2 | exact absurd q h3 | exact absurd q.symm h1 | exact absurd q.symm h2 | exact absurd q.symm h3
    · have := mem_lookup e
      simp only [List.mem_cons, Prod.mk.injEq, List.not_mem_nil, or_false] at this
      rcases this with ⟨rfl, _⟩ | ⟨rfl, _⟩ | ⟨rfl, _⟩ <;> (show List.lookup _ (fScope (inSt 4)).names ≠ _; decide)
  obtain ⟨s, hs⟩ := hide_eq ({ s₀ with heap := h₁, toks := t } : Shared)
  rw [hs] at Z ⊢
  clear hs
  refine @wpAny_execs_cons _ _ _ _ _ _ _ _ <| @wpAny_If _ _ _ _ _ _ _ _ _ _ <| @wpAny_isTrue_Compare1 _ _ _ _ _ _ _ _ _ _ _ ( @wpAny_BinOp _ _ _ _ _ _ _ _ _ _ <| @ld _ _ _ _ _ _ _ _ _ _ _ _ Z _ rfl ( @wpAny_Constant_int _ _ _ _ _ _ _ _ _ <| @r_add _ _ _ _ _ _ _ _ _ _ _ _ _ _ _ Z.tok fun t s Z => @ld _ _ _ _ _ _ _ _ _ _ _ _ Z _ rfl ( @eq_int _ _ _ _ _ _ _ _ _ _ <| @wpAny_truthy_bool _ _ _ _ _ _ ?_) (by rfl) (by rfl) (by decide) (by decide)) (by rfl) (by rfl) (by decide) (by decide)) (by with_unfolding_all rfl)
  by_cases hb : L + 1 = R
  · subst hb
    rw [if_pos (by simp)]
    obtain ⟨t', ht'⟩ := hv.2 L (by lia)
    have hvs := hv.1
    refine @wpAny_execs_cons _ _ _ _ _ _ _ _ <| @wpAny_Return_some _ _ _ _ _ _ _ _ <| @Subscript_ _ _ _ _ _ _ _ _ _ <| @ld _ _ _ _ _ _ _ _ _ _ _ _ Z _ rfl ( @ld _ _ _ _ _ _ _ _ _ _ _ _ Z _ rfl ( @item_list _ _ _ _ _ _ _ _ _ _ _ _ _ (Z.gr.list hl) (by lia) (by lia) (by simpa using ht') (?_) (by with_unfolding_all rfl) (by intro _; with_unfolding_all rfl)) (by rfl) (by rfl) (by decide) (by decide)) (by rfl) (by rfl) (by decide) (by decide)
    have e : dval n ((ds.drop L).take (L + 1 - L)) = ds.getD L 0 := by
      rw [show L + 1 - L = 1 by lia, List.take_one, List.head?_drop, List.getElem?_eq_getElem (by lia)]
      simp [dval, List.getD, List.getElem?_eq_getElem (show L < ds.length by omega)]
    have := h s t' Z.done
    rw [e] at this
    exact this
  rw [if_neg (by simp; (clear hn hd10 room hd hLR hR hz h10; lia))]
  obtain ⟨d', rfl⟩ : ∃ d', d = d' + 1 := by
    cases d with
    | zero => exfalso; simp at hd; lia
    | succ d' => exact ⟨d', rfl⟩
  have H : Inn4 w T F D cn ci cd c' doc pm ct n tn d' := H d' rfl
  rw [Nat.pow_succ] at hd h10
  generalize hXe : 2 ^ d' = X at hd h10
  refine @wpAny_execs_nil _ _ _ _ _ _ <| @wpAny_execs_cons _ _ _ _ _ _ _ _ <| @wpAny_Assign_Name _ _ _ _ _ _ _ _ _ _ ( @wpAny_BinOp _ _ _ _ _ _ _ _ _ _ <| @wpAny_BinOp _ _ _ _ _ _ _ _ _ _ <| @ld _ _ _ _ _ _ _ _ _ _ _ _ Z _ rfl ( @ld _ _ _ _ _ _ _ _ _ _ _ _ Z _ rfl ( @n_add _ _ _ _ _ _ _ _ _ _ _ _ _ _ _ Z fun t s Z => @wpAny_Constant_int _ _ _ _ _ _ _ _ _ <| @n_half _ _ _ _ _ _ _ _ _ _ _ _ _ _ Z.tok fun t s Z => @stl _ _ _ _ _ _ _ _ _ _ _ Z _ (fun s Z => ?_) (by rfl) (by rfl) (by rfl)) (by rfl) (by rfl) (by decide) (by decide)) (by rfl) (by rfl) (by decide) (by decide)) (by rfl)
  obtain ⟨M, hM⟩ : ∃ M, M = (L + R) / 2 := ⟨_, rfl⟩
  rw [← hM] at Z
  have hk : n * (M - L) ≤ 40000 * 64 := Nat.mul_le_mul hn (by (clear hn hb hd10 room hXe; lia))
  have hk2 : n * (R - M) ≤ 40000 * 64 := Nat.mul_le_mul hn (by (clear hn hb hd10 room hXe hk; lia))
  have hlen : ((ds.drop M).take (R - M)).length = R - M := by simp; (clear hn hz hb hd10 room hXe hd h10 hk hk2; lia)
  have hlen2 : ((ds.drop L).take (M - L)).length = M - L := by simp; (clear hn hb hd10 room hXe hd h10 hk hk2 hlen; lia)
  have hup : dval n ((ds.drop M).take (R - M)) < 2 ^ (n * (R - M)) := by
    have := dval_lt n ((ds.drop M).take (R - M)) fun x hx' => hx x (List.mem_of_mem_drop (List.mem_of_mem_take hx'))
    rwa [hlen] at this
  have hsum : dval n ((ds.drop M).take (R - M)) * 2 ^ ((M - L) * n) + dval n ((ds.drop L).take (M - L)) = dval n ((ds.drop L).take (R - L)) := by
    have e : (ds.drop L).take (R - L) = (ds.drop L).take (M - L) ++ (ds.drop M).take (R - M) := by
      rw [show R - L = (M - L) + (R - M) by (clear hn hR hz hb hd10 room hXe hk hk2 hlen hlen2 hup; lia), List.take_add, List.drop_drop, show L + (M - L) = M by (clear hn hR hz hb hd10 room hXe hd h10 hk hk2 hlen hlen2 hup; lia)]
    rw [e, dval_append, hlen2, Nat.mul_comm (M - L) n, Nat.mul_comm]; lia
  refine @wpAny_execs_cons _ _ _ _ _ _ _ _ <| @wpAny_Assign_Name _ _ _ _ _ _ _ _ _ _ ( @wpAny_BinOp _ _ _ _ _ _ _ _ _ _ <| @wpAny_BinOp _ _ _ _ _ _ _ _ _ _ <| @ld _ _ _ _ _ _ _ _ _ _ _ _ Z _ rfl ( @ld _ _ _ _ _ _ _ _ _ _ _ _ Z _ rfl ( @n_sub _ _ _ _ _ _ _ _ _ _ _ _ _ _ _ (by lia) Z fun t s Z => @ld _ _ _ _ _ _ _ _ _ _ _ _ Z _ rfl ( @n_mul _ _ _ _ _ _ _ _ _ _ _ _ _ _ _ (smallMul (.inr (by lia))) Z fun t s Z => @stl _ _ _ _ _ _ _ _ _ _ _ Z _ (fun s Z => ?_) (by rfl) (by rfl) (by rfl)) (by rfl) (by rfl) (by decide) (by decide)) (by rfl) (by rfl) (by decide) (by decide)) (by rfl) (by rfl) (by decide) (by decide)) (by rfl)
  refine @wpAny_execs_cons _ _ _ _ _ _ _ _ <| @wpAny_Return_some _ _ _ _ _ _ _ _ <| @wpAny_BinOp _ _ _ _ _ _ _ _ _ _ <| @wpAny_BinOp _ _ _ _ _ _ _ _ _ _ <| @c_call _ _ _ _ _ _ _ _ _ _ <| @ld _ _ _ _ _ _ _ _ _ _ _ _ Z _ rfl ( c_def (fd := fd4 cn ci cd c' doc pm ct) rfl <| @a_cons _ _ _ _ _ _ _ _ _ ( @ld _ _ _ _ _ _ _ _ _ _ _ _ Z _ rfl ( @a_cons _ _ _ _ _ _ _ _ _ ( @ld _ _ _ _ _ _ _ _ _ _ _ _ Z _ rfl ( @args_nil _ _ _ _ _ _ _ ⟨(I.grow Z.gr).f, ?_⟩) (by rfl) (by rfl) (by decide) (by decide)) (by rfl)) (by rfl) (by rfl) (by decide) (by decide)) (by rfl)) (by rfl) (by rfl) (by decide) (by decide)
  refine H Z.g (I.grow Z.gr) (Z.gr.list hl) hv (by show A.depth + 1 + _ + 1 ≤ _; lia) (by rw [hXe]; (clear hn hR hz hb hd10 room hXe hk hk2 hlen hlen2 hup hsum; lia)) (by lia) (by lia) hz hx fun s' t l => ?_
  have Z := Z.later l
  have hbu := bitsNat hup
  have hks : (M - L) * n ≤ 40000 * 64 := by rw [Nat.mul_comm]; exact hk
  refine @ld _ _ _ _ _ _ _ _ _ _ _ _ Z _ rfl ( @n_shl _ _ _ _ _ _ _ _ _ _ _ _ _ _ _ (by lia) Z fun t s Z => @c_call _ _ _ _ _ _ _ _ _ _ <| @ld _ _ _ _ _ _ _ _ _ _ _ _ Z _ rfl ( c_def (fd := fd4 cn ci cd c' doc pm ct) rfl <| @a_cons _ _ _ _ _ _ _ _ _ ( @ld _ _ _ _ _ _ _ _ _ _ _ _ Z _ rfl ( @a_cons _ _ _ _ _ _ _ _ _ ( @ld _ _ _ _ _ _ _ _ _ _ _ _ Z _ rfl ( @args_nil _ _ _ _ _ _ _ ⟨(I.grow Z.gr).f, ?_⟩) (by rfl) (by rfl) (by decide) (by decide)) (by rfl)) (by rfl) (by rfl) (by decide) (by decide)) (by rfl)) (by rfl) (by rfl) (by decide) (by decide)) (by rfl) (by rfl) (by decide) (by decide)
  refine H Z.g (I.grow Z.gr) (Z.gr.list hl) hv (by show A.depth + 1 + _ + 1 ≤ _; omega) (by rw [hXe]; lia) (by lia) (by lia) hz hx fun s' t l => ?_
  have Z := Z.later l
  refine @n_add _ _ _ _ _ _ _ _ _ _ _ _ _ _ _ Z fun t s Z => ?_
  rw [hsum]
  exact h _ t Z.done
theorem inn4 (hn : n ≤ 40000) : ∀ d, d ≤ 5 → Inn4 w T F D cn ci cd c' doc pm ct n tn d
  | 0, h => inn4_step hn h fun d' e => (Nat.succ_ne_zero d' e.symm).elim
  | d + 1, h => inn4_step hn h fun d' e => by obtain rfl : d = d' := by (clear hn h; lia)
                                              exact inn4 hn d (by lia)
theorem s_digits2int {s₀ : Shared} {A : Around} {Q : Value → Shared → Prop} {D : Addr} {vs : Array Value} {ds : List Nat} {n : Nat} {tn : Tok} (g : G w T s₀.heap) (room : A.depth + 7 ≤ recursionLimit) (hn : n ≤ 40000) (hl : s₀.heap.IsList D vs) (hv : HasInts vs ds) (hz : ds.length ≤ 32) (hx : ∀ x ∈ ds, x < 2 ^ n)
    (h : ∀ s' t, Later w T s₀ s' → Q (.int ((dval n ds : Nat) : Int) t) s') : wpAny (model P31 w) A (call (.ref (T.f 4)) [.ref D, .int n tn]) Q NoE s₀ := by
  refine call_fn (i := 4) (binds := [("digits", .ref D), ("n", .int n tn)]) (by decide) g (by lia) (by rfl) (by rfl) (by rfl) (fun s Z => ?_) (by rfl) (by rfl) (by rfl)
  refine @wpAny_execs_cons _ _ _ _ _ _ _ _ <| @nestDef_K _ _ _ _ _ _ _ _ _ _ _ (by rfl) (by rfl) (by rfl) <| r_nest (c := T.cd 4) (P := T.p2) (q := "_digits2int.<locals>.inner") (clos := [("n", s₀.heap.objs.size + 2), ("inner", s₀.heap.objs.size + 3), ("digits", s₀.heap.objs.size + 1)]) Z (by rfl) (by rfl) (.inr rfl) Z.g.t2 (fun h' gr kp t2 => ?_) (by rfl) fun F c' doc pm ct sA ZA hc' => @stcK _ _ _ _ _ _ _ _ _ _ _ _ ZA _ rfl (by lia) (fun s Z hk => ?_) (by rfl) (by rfl)
  · obtain ⟨ps, hP, hps⟩ := tab_ps Z.g.t2
    exact Z.g.grow gr (Z.g.t1.keepBut Z.g.ok.pp hP hps kp) t2
  have hc' := hc'.keepCell (ZA.cel "inner" (s₀.heap.objs.size + 3) rfl).1 hk
  clear hk ZA
  have hFD : F ≠ D := fun q => by
    have := (Z.nw _ (.head _)).2.2.2.1
    obtain ⟨o, e, _⟩ := hl
    rw [q, e] at this; cases this
  have I : In4 s.heap F D (s₀.heap.objs.size + 2) (s₀.heap.objs.size + 3) (s₀.heap.objs.size + 1) c' doc pm ct n tn := ⟨Z.get (.head _), hc', (Z.cel "n" (s₀.heap.objs.size + 2) rfl).1, (Z.cel "inner" (s₀.heap.objs.size + 3) rfl).1, (Z.cel "digits" (s₀.heap.objs.size + 1) rfl).1, hFD⟩
  have hvs := hv.1
  refine @wpAny_execs_cons _ _ _ _ _ _ _ _ <| @wpAny_Return_some _ _ _ _ _ _ _ _ <| @wpAny_IfExp _ _ _ _ _ _ _ _ _ _ <| @isTrue_plain _ _ _ _ _ _ _ _ ( @ld _ _ _ _ _ _ _ _ _ _ _ _ Z _ rfl ( @wpAny_truthy_list _ _ _ _ _ _ _ _ (Z.gr.list hl) (by lia) ?_) (by rfl) (by rfl) (by decide) (by decide)) (by rfl)
  by_cases h0 : ds = []
  · subst h0
    have : vs.isEmpty = true := by simpa [Array.isEmpty] using hvs
    rw [this]
    exact @wpAny_Constant_int _ _ _ _ _ _ _ _ _ (h _ _ Z.tok.done)
  · have hpos : 0 < ds.length := List.length_pos_iff.mpr h0
    have : vs.isEmpty = false := by
      cases e : vs.isEmpty with
      | false => rfl
      | true => simp [Array.isEmpty] at e; rw [e] at hvs; simp at hvs; lia
    rw [this]
    refine @c_call _ _ _ _ _ _ _ _ _ _ <| @ld _ _ _ _ _ _ _ _ _ _ _ _ Z.tok _ rfl ( c_def (fd := fd4 _ _ _ c' doc pm ct) rfl <| @a_cons _ _ _ _ _ _ _ _ _ ( @wpAny_Constant_int _ _ _ _ _ _ _ _ _ <| @a_cons _ _ _ _ _ _ _ _ _ ( @c_call _ _ _ _ _ _ _ _ _ _ <| @ldb _ _ _ _ _ _ _ _ _ _ _ _ Z.tok _ rfl ( @c_blt _ _ _ _ _ _ _ _ _ _ ( @a_cons _ _ _ _ _ _ _ _ _ ( @ld _ _ _ _ _ _ _ _ _ _ _ _ Z.tok _ rfl ( @args_nil _ _ _ _ _ _ _ <| @call_len_list _ _ _ _ _ _ _ _ (Z.gr.list hl) (by lia) <| @args_nil _ _ _ _ _ _ _ ⟨Z.get (.head _), ?_⟩) (by rfl) (by rfl) (by decide) (by decide)) (by rfl)) (by rfl) (by rfl)) (by rfl) (by rfl) (by rfl) (by rfl) (by decide)) (by rfl)) (by rfl)) (by rfl) (by rfl) (by decide) (by decide)
    rw [hvs]
    refine inn4 hn 5 (by decide) (R := ds.length) (L := 0) (Z.tok (t := s.toks + 1 + 1 + 1 + 1 + 1)).g I (Z.gr.list hl) hv (by show A.depth + 1 + 5 + 1 ≤ _; lia) (by lia) hpos (Nat.le_refl _) (by lia) hx fun s' t l => ?_
    have := h s' t ((Z.tok (t := s.toks + 1 + 1 + 1 + 1 + 1)).later l).done
    simpa using this
end
end Mine
namespace Mine
open PySem PySem.W PySem.Calls PyProof.Rows
theorem HasInts.push {vs : Array Value} {ds : List Nat} {x : Nat} {t : Tok} (h : HasInts vs ds) : HasInts (vs.push (.int (x : Int) t)) (ds ++ [x]) := by
  obtain ⟨h1, h2⟩ := h
  refine ⟨by simp [h1], fun i hi => ?_⟩
  rw [List.length_append] at hi
  by_cases c : i < ds.length
  · obtain ⟨t', e⟩ := h2 i c
    refine ⟨t', ?_⟩
    rw [Array.getElem?_push_lt (by lia)] 
    rw [Array.getElem?_eq_getElem (by omega)] at e
    rw [e]
    simp [List.getD, List.getElem?_append_left c]
  · obtain rfl : i = ds.length := by simp at hi; lia
    refine ⟨t, ?_⟩
    rw [← h1, Array.getElem?_push_size]
    simp [List.getD, h1]
theorem HasInts.reverse {vs : Array Value} {ds : List Nat} (h : HasInts vs ds) : HasInts vs.reverse ds.reverse := by
  obtain ⟨h1, h2⟩ := h
  refine ⟨by simp [h1], fun i hi => ?_⟩
  rw [List.length_reverse] at hi
  obtain ⟨t, e⟩ := h2 (ds.length - 1 - i) (by omega)
  refine ⟨t, ?_⟩
  rw [Array.getElem?_reverse (by lia), h1, e]
  simp [List.getD, List.getElem?_reverse hi]
/-- what holds ahead of a turn of the loop over the digits -/
inductive KP (AA : Nat → Nat) (n b : Nat) (tb : Tok) (D2 D : Addr) (o : Obj) (i : Nat) (m : Str → Option Value) (mus news : List (Addr × Obj)) : Prop
  | mk (qs : List Nat) (arr : Array Value) (nn : Nat) (tr tn : Tok) (h0 : mus = [(D2, lstO arr nn)]) (h1 : HasInts arr qs) (h2 : qs.length = i) (h3 : ∀ x ∈ qs, x < 2 ^ n) (h4 : dval n qs.reverse = AA i / b) (h5 : m "r" = some (.int ((AA i % b : Nat) : Int) tr))
    (h6 : m "n" = some (.int n tn)) (h7 : m "b" = some (.int b tb)) (h8 : m "q_digits" = some (.ref D2)) (h9 : (D, o) ∈ news) : KP AA n b tb D2 D o i m mus news
section
variable {w : World} {T : Tops}
theorem s_divmod_pos {s₀ : Shared} {A : Around} {Q : Value → Shared → Prop} {a b : Nat} {ta tb : Tok} (g : G w T s₀.heap) (room : A.depth + 12 ≤ recursionLimit) (hh : A.handled = none) (hb : 0 < b) (hbn : Builtin.Int.intBits (b : Int) ≤ 32000) (hcnt : Builtin.Int.intBits (a : Int) ≤ 32 * Builtin.Int.intBits (b : Int))
    (h : ∀ s' d t1 t2, Later w T s₀ s' → s'.heap.get? d = some (tupO #[.int ((a / b : Nat) : Int) t1, .int ((a % b : Nat) : Int) t2]) → s₀.heap.get? d = none → Q (.ref d) s') :
    wpAny (model P31 w) A (call (.ref (T.f 5)) [.int a ta, .int b tb]) Q NoE s₀ := by
  obtain ⟨n, hn⟩ := hide_eq (Builtin.Int.intBits (b : Int))
  rw [hn] at hbn hcnt
  have hn1 : 1 ≤ n := by
    rw [← hn]; unfold Builtin.Int.intBits
    rw [if_neg (by simp; lia)]; lia
  have hc : (Builtin.Int.intBits (a : Int) + n - 1) / n ≤ 32 := by
    have : Builtin.Int.intBits (a : Int) + n - 1 < 33 * n := by lia
    have := (Nat.div_lt_iff_lt_mul hn1).mpr this
    lia
  refine call_fn (i := 5) (binds := [("a", .int a ta), ("b", .int b tb)]) (by decide) g (by lia) (by rfl) (by rfl) (by rfl) (fun s Z => ?_) (by rfl) (by rfl) (by rfl)
  refine @wp_hide _ _ _ _ _ _ _ fun Po hPo => ?_
  refine @wpAny_execs_cons _ _ _ _ _ _ _ _ <| @wpAny_Assign_Name _ _ _ _ _ _ _ _ _ _ ( @MethodCall_ _ _ _ _ _ _ _ _ _ _ _ _ ( @ld _ _ _ _ _ _ _ _ _ _ _ _ Z _ rfl ( @getMethod_int_bit_length _ _ _ _ _ _ _ _ <| @callWith_method0 _ _ _ _ _ _ _ _ _ <| @r_bitlen _ _ _ _ _ _ _ _ _ _ _ _ _ Z fun t s Z => @stl _ _ _ _ _ _ _ _ _ _ _ Z _ (fun s Z => ?_) (by rfl) (by rfl) (by rfl)) (by rfl) (by rfl) (by decide) (by decide)) (by rfl)) (by rfl)
  rw [hn] at Z
  refine @wpAny_execs_cons _ _ _ _ _ _ _ _ <| @wpAny_Assign_Name _ _ _ _ _ _ _ _ _ _ ( @c_call _ _ _ _ _ _ _ _ _ _ <| @ldg _ _ _ _ _ _ _ _ _ _ _ _ Z _ rfl ( r_callfn (i := 3) <| @a_cons _ _ _ _ _ _ _ _ _ ( @ld _ _ _ _ _ _ _ _ _ _ _ _ Z _ rfl ( @a_cons _ _ _ _ _ _ _ _ _ ( @ld _ _ _ _ _ _ _ _ _ _ _ _ Z _ rfl ( @args_nil _ _ _ _ _ _ _ ⟨(Z.g.fn 3 (by decide)).1, ?_⟩) (by rfl) (by rfl) (by decide) (by decide)) (by rfl)) (by rfl) (by rfl) (by decide) (by decide)) (by rfl)) (by rfl) (by rfl) (by rfl) (by decide)) (by rfl)
  refine @s_int2digits _ _ _ _ _ _ _ _ _ Z.g (by show A.depth + 1 + 7 ≤ _; lia) (by lia) hn1 hc fun s' D o vs l e1 e2 hlo hsz hd => ?_
  have Z := Z.join1 l ⟨e1, hlo.cls, e2⟩
  refine @stl _ _ _ _ _ _ _ _ _ _ _ Z _ (fun s Z => @wpAny_execs_cons _ _ _ _ _ _ _ _ <| @wpAny_Assign_Name _ _ _ _ _ _ _ _ _ _ ( @wpAny_Constant_int _ _ _ _ _ _ _ _ _ <| @stl _ _ _ _ _ _ _ _ _ _ _ Z.tok _ (fun s Z => @wpAny_execs_cons _ _ _ _ _ _ _ _ <| @wpAny_Assign_Name _ _ _ _ _ _ _ _ _ _ ( @List_ _ _ _ _ _ _ _ _ <| @args_nil _ _ _ _ _ _ _ <| @r_newlistM _ _ _ _ _ _ _ _ _ _ _ _ Z (by simp) fun D2 s Z => @stl _ _ _ _ _ _ _ _ _ _ _ Z _ (fun s Z => ?_) (by rfl) (by rfl) (by rfl)) (by rfl)) (by rfl) (by rfl) (by rfl)) (by rfl)) (by rfl) (by rfl) (by rfl)
  have hPos : 0 < 2 ^ n := Nat.two_pow_pos _
  have hbl : b < 2 ^ n := by have := bits_lt (a := (b : Int)) (Nat.le_of_eq hn); simpa using this
  have hbg : 2 ^ n ≤ 2 * b := by
    have e : n = b.log2 + 1 := by
      rw [← hn]; unfold Builtin.Int.intBits
      rw [if_neg (by simp; lia)]; simp
    have := (Nat.le_log2 (n := b) (k := b.log2) (by omega)).mp (Nat.le_refl _)
    rw [e, Nat.pow_succ]; (clear room hb hcnt hbn hn hn1 hc hsz hPos hbl e; lia)
  obtain ⟨AA, hAA⟩ := hide_eq (fun i => a / 2 ^ (n * (vs.size - i)))
  have hA0 : AA 0 = 0 := by
    rw [← hAA]
    refine Nat.div_eq_of_lt (Nat.lt_of_lt_of_le (by simpa using bits_lt (a := (a : Int)) (Nat.le_refl _)) (Nat.pow_le_pow_right (by decide) ?_))
    rw [Nat.sub_zero, hsz]
    have := Nat.div_add_mod (Builtin.Int.intBits (a : Int) + n - 1) n
    have := Nat.mod_lt (Builtin.Int.intBits (a : Int) + n - 1) hn1
    (clear room hb hcnt hc hsz hPos hbl hbg; omega)
  have hAn : AA vs.size = a := by rw [← hAA]; simp
  have hAs : ∀ i, i < vs.size → AA (i + 1) = AA i * 2 ^ n + a / 2 ^ (n * (vs.size - 1 - i)) % 2 ^ n := fun i hi => by
    rw [← hAA]
    show a / 2 ^ (n * (vs.size - (i + 1))) = a / 2 ^ (n * (vs.size - i)) * 2 ^ n + _
    rw [show vs.size - i = (vs.size - 1 - i) + 1 by (clear room hb hcnt hbn hn hn1 hc hsz hPos hbl hbg hA0 hAn; lia), Nat.mul_add, Nat.mul_one, Nat.pow_add, ← Nat.div_div_eq_div_mul, show vs.size - (i + 1) = vs.size - 1 - i by lia]
    exact (Nat.div_add_mod' ..).symm
  refine @wpAny_execs_cons _ _ _ _ _ _ _ _ <| @wpAny_For _ _ _ _ _ _ _ _ _ _ _ ( @c_call _ _ _ _ _ _ _ _ _ _ <| @ldb _ _ _ _ _ _ _ _ _ _ _ _ Z _ rfl ( @c_typ _ _ _ _ _ _ _ _ _ _ ( @a_cons _ _ _ _ _ _ _ _ _ ( @ld _ _ _ _ _ _ _ _ _ _ _ _ Z _ rfl ( @args_nil _ _ _ _ _ _ _ <| @r_iterRev _ _ _ _ _ _ _ _ _ _ _ _ _ _ _ Z hh (Z.get (.head _)) hlo
    (fun i m mus news => KP AA n b tb D2 D o i m mus news)
    (fun i m mus news s hK Z => ?_) ?_ (fun I i m mus news oI v s hi hK hv Z => ?_) ((fun m mus news s hK Z => ?_)) (by intro _ _; rfl)) (by rfl) (by rfl) (by decide) (by decide)) (by rfl)) (by rfl) (by rfl)) (by rfl) (by rfl) (by rfl) (by rfl) (by decide)) (by intro _; rfl)
  · obtain ⟨qs, arr, nn, tr, tn', rfl, _, _, _, _, _, _, _, _, hm⟩ := hK
    exact Z.get hm
  · exact ⟨[], #[], 0, _, _, rfl, ⟨rfl, fun i hi => absurd hi (Nat.not_lt_zero _)⟩, rfl, (fun _ h => absurd h List.not_mem_nil), by rw [hA0]; simp [dval], by rw [hA0, Nat.zero_mod]; rfl, rfl, rfl, rfl, .head _⟩
  · refine @turn_hide _ _ _ _ _ _ _ _ _ _ _ fun Pt hPt => @goal_hide _ fun G hG => ?_
    obtain ⟨qs, arr, nn, tr, tn', rfl, k1, k2, k3, k4, m1, m2, m3, m4, hm⟩ := hK
    obtain ⟨tv, ev⟩ := hd (vs.size - 1 - i) (by omega)
    rw [ev] at hv
    obtain rfl := Option.some.inj hv
    have hr : AA i % b < b := Nat.mod_lt _ hb
    have hdl : a / 2 ^ (n * (vs.size - 1 - i)) % 2 ^ n < 2 ^ n := Nat.mod_lt _ hPos
    have hX : AA i % b * 2 ^ n + a / 2 ^ (n * (vs.size - 1 - i)) % 2 ^ n < b * 2 ^ n := by
      have := Nat.mul_le_mul_right (2 ^ n) hr
      rw [Nat.succ_mul] at this; omega
    have hb1 := bitsNat (Nat.lt_trans hr hbl)
    refine hG ?_
    clear hG
    refine @wpAny_assign_Name _ _ _ _ _ _ _ _ _ <| @stl _ _ _ _ _ _ _ _ _ _ _ Z _ (fun s Z => @wpAny_execs_cons _ _ _ _ _ _ _ _ <| @Assign_Tuple _ _ _ _ _ _ _ _ _ _ _ ( @c_call _ _ _ _ _ _ _ _ _ _ <| @ldg _ _ _ _ _ _ _ _ _ _ _ _ Z _ rfl ( r_callfn (i := 1) <| @a_cons _ _ _ _ _ _ _ _ _ ( @wpAny_BinOp _ _ _ _ _ _ _ _ _ _ <| @wpAny_BinOp _ _ _ _ _ _ _ _ _ _ <| @ld _ _ _ _ _ _ _ _ _ _ _ _ Z _ m1 ( @ld _ _ _ _ _ _ _ _ _ _ _ _ Z _ m2 ( @n_shl _ _ _ _ _ _ _ _ _ _ _ _ _ _ _ (by lia) Z fun t s Z => @ld _ _ _ _ _ _ _ _ _ _ _ _ Z _ rfl ( @n_add _ _ _ _ _ _ _ _ _ _ _ _ _ _ _ Z fun t s Z => @a_cons _ _ _ _ _ _ _ _ _ ( @ld _ _ _ _ _ _ _ _ _ _ _ _ Z _ m3 ( @a_cons _ _ _ _ _ _ _ _ _ ( @ld _ _ _ _ _ _ _ _ _ _ _ _ Z _ m2 ( @args_nil _ _ _ _ _ _ _ ⟨(Z.g.fn 1 (by decide)).1, ?_⟩) (by rfl) (by rfl) (by decide) (by decide)) (by rfl)) (by rfl) (by rfl) (by decide) (by decide)) (by rfl)) (by rfl) (by rfl) (by decide) (by decide)) (by rfl) (by rfl) (by decide) (by decide)) (by rfl) (by rfl) (by decide) (by decide)) (by rfl)) (by rfl) (by rfl) (by rfl) (by decide)) (by rfl) (by rfl)) (by rfl) (by rfl) (by rfl)
    refine div1_all 3 Z.g (by show A.depth + 1 + 2 * 3 + 1 ≤ _; lia) hh (by lia) (by lia) hn1 (by exact_mod_cast hbg) (by exact_mod_cast hbl) (by omega) (by exact_mod_cast hX) fun q r s' d t1 t2 l q1 q2 q3 q4 q5 => ?_
    have Z := Z.join1 l ⟨q4, nofun, q5⟩
    obtain ⟨q', rfl⟩ : ∃ q' : Nat, q = q' := by
      refine ⟨q.toNat, (Int.toNat_of_nonneg (Int.not_lt.mp fun hq => ?_)).symm⟩
      have : q * b ≤ -1 * b := Int.mul_le_mul_of_nonneg_right (by lia) (by lia)
      omega
    obtain ⟨r', rfl⟩ : ∃ r' : Nat, r = r' := ⟨r.toNat, by lia⟩
    obtain ⟨X, hXX⟩ := hide_eq (AA i % b * 2 ^ n + a / 2 ^ (n * (vs.size - 1 - i)) % 2 ^ n)
    rw [hXX] at q1 hX
    have q1' : q' * b + r' = X := by exact_mod_cast q1
    have q3' : r' < b := by exact_mod_cast q3
    have hq : q' = X / b := by
      rw [← q1', Nat.add_comm, Nat.add_mul_div_right _ _ hb, Nat.div_eq_of_lt q3', Nat.zero_add]
    have hr' : r' = X % b := by
      rw [← q1', Nat.add_comm, Nat.add_mul_mod_self_right, Nat.mod_eq_of_lt q3']
    have hql : q' < 2 ^ n := by
      rw [hq]; exact (Nat.div_lt_iff_lt_mul hb).mpr (by rw [Nat.mul_comm]; exact hX)
    have hAi := hAs i hi
    have hsplit : AA (i + 1) = (AA i / b * 2 ^ n) * b + X := by
      rw [hAi, ← hXX]
      have h0 := Nat.div_add_mod (AA i) b
      have : AA i * 2 ^ n = (AA i / b * 2 ^ n) * b + AA i % b * 2 ^ n := by
        rw [Nat.mul_assoc, Nat.mul_comm (2 ^ n) b, ← Nat.mul_assoc, ← Nat.add_mul, Nat.mul_comm (AA i / b) b, h0]
      lia
    have hdiv : AA (i + 1) / b = AA i / b * 2 ^ n + q' := by
      rw [hsplit, Nat.add_comm, Nat.add_mul_div_right _ _ hb, hq, Nat.add_comm]
    have hmod : AA (i + 1) % b = r' := by
      rw [hsplit, Nat.add_comm, Nat.add_mul_mod_self_right, hr']
    refine @r_unpack2 _ _ _ _ _ _ _ _ _ _ _ _ _ _ _ _ _ _ _ _ Z hh (Z.get (.head _)) fun s Z => @stl _ _ _ _ _ _ _ _ _ _ _ Z _ (fun s Z => @stl _ _ _ _ _ _ _ _ _ _ _ Z _ (fun s Z => ?_) (by rfl) (by rfl) (by rfl)) (by rfl) (by rfl) (by rfl)
    have hasz := k1.1
    have hvs : vs.size ≤ 32 := by lia
    have Z := Z.swapM
    refine @wpAny_execs_cons _ _ _ _ _ _ _ _ <| @wpAny_Expr _ _ _ _ _ _ _ _ ( @MethodCall_ _ _ _ _ _ _ _ _ _ _ _ _ ( @ld _ _ _ _ _ _ _ _ _ _ _ _ Z _ m4 ( @getMethod_list_append _ _ _ _ _ _ _ _ (Z.getM (.head _)) rfl rfl <| @c_meth _ _ _ _ _ _ _ _ _ _ _ ( @a_cons _ _ _ _ _ _ _ _ _ ( @ld _ _ _ _ _ _ _ _ _ _ _ _ Z _ rfl ( @args_nil _ _ _ _ _ _ _ <| @r_append _ _ _ _ _ _ _ _ _ _ _ _ _ _ _ Z (by lia) fun nn s Z => @wpAny_execs_nil _ _ _ _ _ _ ?_) (by rfl) (by rfl) (by decide) (by decide)) (by rfl)) (by rfl) (by rfl)) (by rfl) (by rfl) (by decide) (by decide)) (by rfl)) (by rfl) (by rfl)
    refine hPt _ _ ⟨_, _, _, Z.swapM, qs ++ [q'], arr.push (.int (q' : Int) t1), nn, t2, tn', rfl, k1.push, by simp [k2], fun x hx => ?_, ?_, ?_, m2, m3, m4, .tail _ hm⟩
    · rcases List.mem_append.mp hx with hx | hx
      · exact k3 x hx
      · rw [List.mem_singleton.mp hx]; exact hql
    · rw [List.reverse_append, List.reverse_singleton]
      show q' + 2 ^ n * dval n qs.reverse = _
      rw [k4, hdiv, Nat.mul_comm]; lia
    · rw [hmod]; rfl
  · obtain ⟨qs, arr, nn, tr, tn', rfl, k1, k2, k3, k4, m1, m2, m3, m4, hm⟩ := hK
    rw [hAn] at k4 m1
    have hasz := k1.1
    have hvs : vs.size ≤ 32 := by lia
    refine @wpAny_execs_cons _ _ _ _ _ _ _ _ <| @wpAny_Expr _ _ _ _ _ _ _ _ ( @MethodCall_ _ _ _ _ _ _ _ _ _ _ _ _ ( @ld _ _ _ _ _ _ _ _ _ _ _ _ Z _ m4 ( @getMethod_list_of _ _ _ _ _ _ _ _ _ _ _ F.slot_list_reverse F.type_list_reverse (isL_lst.list (Z.getM (.head _))) ?_ <| @r_reverse _ _ _ _ _ _ _ _ _ _ _ _ _ _ _ Z (by lia) fun nn s Z => ?_) (by rfl) (by rfl) (by decide) (by decide)) (by rfl)) (by rfl) (by rfl)
    · exact ⟨_, Z.getM (.head _), rfl⟩
    have Z := Z.freeze
    refine @wpAny_execs_cons _ _ _ _ _ _ _ _ <| @wpAny_Assign_Name _ _ _ _ _ _ _ _ _ _ ( @c_call _ _ _ _ _ _ _ _ _ _ <| @ldg _ _ _ _ _ _ _ _ _ _ _ _ Z _ rfl ( r_callfn (i := 4) <| @a_cons _ _ _ _ _ _ _ _ _ ( @ld _ _ _ _ _ _ _ _ _ _ _ _ Z _ m4 ( @a_cons _ _ _ _ _ _ _ _ _ ( @ld _ _ _ _ _ _ _ _ _ _ _ _ Z _ m2 ( @args_nil _ _ _ _ _ _ _ ⟨(Z.g.fn 4 (by decide)).1, ?_⟩) (by rfl) (by rfl) (by decide) (by decide)) (by rfl)) (by rfl) (by rfl) (by decide) (by decide)) (by rfl)) (by rfl) (by rfl) (by rfl) (by decide)) (by rfl)
    refine @s_digits2int _ _ _ _ _ _ _ _ _ _ Z.g (by show A.depth + 1 + 7 ≤ _; lia) (by lia) (isL_lst.list (Z.get (.head _))) k1.reverse (by simp; lia) (fun x hx => k3 x (List.mem_reverse.mp hx)) fun s' t l => ?_
    rw [k4]
    have Z := Z.later l
    refine @stl _ _ _ _ _ _ _ _ _ _ _ Z _ (fun s Z => @wpAny_execs_cons _ _ _ _ _ _ _ _ <| @wpAny_Return_some _ _ _ _ _ _ _ _ <| @Tuple_ _ _ _ _ _ _ _ _ _ <| @a_cons _ _ _ _ _ _ _ _ _ ( @ld _ _ _ _ _ _ _ _ _ _ _ _ Z _ rfl ( @a_cons _ _ _ _ _ _ _ _ _ ( @ld _ _ _ _ _ _ _ _ _ _ _ _ Z _ m1 ( @args_nil _ _ _ _ _ _ _ <| @r_tuple2 _ _ _ _ _ _ _ _ _ _ _ _ _ Z fun d s Z => ?_) (by rfl) (by rfl) (by decide) (by decide)) (by rfl)) (by rfl) (by rfl) (by decide) (by decide)) (by rfl)) (by rfl) (by rfl) (by rfl)
    exact hPo _ _ <| h _ d _ _ Z.done (Z.get (.head _)) (Z.nw _ (.head _)).2.2.2.1
end
end Mine
namespace Mine
open PySem PySem.W PySem.Calls PyProof.Rows
/-- floor division -/
noncomputable def FD (a b q r : Int) : Prop := q * b + r = a ∧ (0 < b ∧ 0 ≤ r ∧ r < b ∨ b < 0 ∧ b < r ∧ r ≤ 0)
noncomputable def IntDiv (w : World) (T : Tops) (k : Nat) (ok : Int → Int → Prop) : Prop := ∀ {s₀ : Shared} {A : Around} {Q : Value → Shared → Prop} {a b : Int} {ta tb : Tok}, G w T s₀.heap → A.depth + 13 + k ≤ recursionLimit → A.handled = none → b ≠ 0 → Builtin.Int.intBits b ≤ 32000 → Builtin.Int.intBits a ≤ 32 * Builtin.Int.intBits b → ok a b →
  (∀ q r s' d t1 t2, Later w T s₀ s' → FD a b q r → s'.heap.get? d = some (tupO #[.int q t1, .int r t2]) → s₀.heap.get? d = none → Q (.ref d) s') →
  wpAny (model P31 w) A (call (.ref (T.f 6)) [.int a ta, .int b tb]) Q NoE s₀
theorem bits_mono {a b : Int} (h : a.natAbs ≤ b.natAbs) : Builtin.Int.intBits a ≤ Builtin.Int.intBits b := bits_le (Nat.lt_of_le_of_lt h (bits_lt (Nat.le_refl _)))
section
variable {w : World} {T : Tops}
theorem div_step {k : Nat} {ok ok' : Int → Int → Prop} (H : (∀ a b, ok a b → 0 < b ∧ 0 ≤ a) ∨ ∃ j, k = j + 1 ∧ IntDiv w T j ok' ∧ (∀ a b, ok a b → b < 0 → ok' (-a) (-b)) ∧ ∀ a b, ok a b → 0 < b → a < 0 → ok' (-a - 1) b) : IntDiv w T k ok := by
  intro s₀ A Q a b ta tb g room hh hb hbn hcnt hok h
  refine call_fn (i := 6) (binds := [("a", .int a ta), ("b", .int b tb)]) (by decide) g (by lia) (by rfl) (by rfl) (by rfl) (fun s Z => ?_) (by rfl) (by rfl) (by rfl)
  refine @wpAny_execs_cons _ _ _ _ _ _ _ _ <| @wpAny_If _ _ _ _ _ _ _ _ _ _ <| @wpAny_isTrue_Compare1 _ _ _ _ _ _ _ _ _ _ _ ( @ld _ _ _ _ _ _ _ _ _ _ _ _ Z _ rfl ( @wpAny_Constant_int _ _ _ _ _ _ _ _ _ <| @eq_int _ _ _ _ _ _ _ _ _ _ <| @wpAny_truthy_bool _ _ _ _ _ _ ?_) (by rfl) (by rfl) (by decide) (by decide)) (by with_unfolding_all rfl)
  have Z := Z.tok (t := s.toks + 1)
  rw [if_neg (by simpa using hb)]
  refine @wpAny_execs_cons _ _ _ _ _ _ _ _ <| @wpAny_If _ _ _ _ _ _ _ _ _ _ <| @wpAny_isTrue_Compare1 _ _ _ _ _ _ _ _ _ _ _ ( @ld _ _ _ _ _ _ _ _ _ _ _ _ Z _ rfl ( @wpAny_Constant_int _ _ _ _ _ _ _ _ _ <| @lt_int _ _ _ _ _ _ _ _ _ _ <| @wpAny_truthy_bool _ _ _ _ _ _ ?_) (by rfl) (by rfl) (by decide) (by decide)) (by with_unfolding_all rfl)
  have Z := Z.tok (t := s.toks + 1 + 1)
  by_cases hb0 : b < 0
  · rw [if_pos (by simpa using hb0)]
    rcases H with H | ⟨j, rfl, H, H1, H2⟩
    · have := H a b hok; omega
    refine @wpAny_execs_cons _ _ _ _ _ _ _ _ <| @Assign_Tuple _ _ _ _ _ _ _ _ _ _ _ ( @c_call _ _ _ _ _ _ _ _ _ _ <| @ldg _ _ _ _ _ _ _ _ _ _ _ _ Z _ rfl ( r_callfn (i := 6) <| @a_cons _ _ _ _ _ _ _ _ _ ( @wpAny_UnaryOp _ _ _ _ _ _ _ _ _ <| @ld _ _ _ _ _ _ _ _ _ _ _ _ Z _ rfl ( @r_neg _ _ _ _ _ _ _ _ _ _ _ _ _ Z fun t s Z => @a_cons _ _ _ _ _ _ _ _ _ ( @wpAny_UnaryOp _ _ _ _ _ _ _ _ _ <| @ld _ _ _ _ _ _ _ _ _ _ _ _ Z _ rfl ( @r_neg _ _ _ _ _ _ _ _ _ _ _ _ _ Z fun t s Z => @args_nil _ _ _ _ _ _ _ ⟨(Z.g.fn 6 (by decide)).1, ?_⟩) (by rfl) (by rfl) (by decide) (by decide)) (by rfl)) (by rfl) (by rfl) (by decide) (by decide)) (by rfl)) (by rfl) (by rfl) (by rfl) (by decide)) (by rfl) (by rfl)
    refine H Z.g (by show A.depth + 1 + 13 + j ≤ _; lia) hh (by lia) (Nat.le_trans (bits_mono (by lia)) hbn) (Nat.le_trans (bits_mono (by (clear hb hbn hcnt hb0 room; omega))) (Nat.le_trans hcnt (Nat.mul_le_mul_left _ (bits_mono (by (clear hb hbn hcnt room; lia)))))) (H1 _ _ hok hb0) fun q r s' d t1 t2 l fd e1 e2 => ?_
    have Z := Z.join1 l ⟨e1, nofun, e2⟩
    refine @r_unpack2 _ _ _ _ _ _ _ _ _ _ _ _ _ _ _ _ _ _ _ _ Z hh (Z.get (.head _)) fun s Z => @stl _ _ _ _ _ _ _ _ _ _ _ Z _ (fun s Z => @stl _ _ _ _ _ _ _ _ _ _ _ Z _ (fun s Z => @wpAny_execs_cons _ _ _ _ _ _ _ _ <| @wpAny_Return_some _ _ _ _ _ _ _ _ <| @Tuple_ _ _ _ _ _ _ _ _ _ <| @a_cons _ _ _ _ _ _ _ _ _ ( @ld _ _ _ _ _ _ _ _ _ _ _ _ Z _ rfl ( @a_cons _ _ _ _ _ _ _ _ _ ( @wpAny_UnaryOp _ _ _ _ _ _ _ _ _ <| @ld _ _ _ _ _ _ _ _ _ _ _ _ Z _ rfl ( @r_neg _ _ _ _ _ _ _ _ _ _ _ _ _ Z fun t s Z => @args_nil _ _ _ _ _ _ _ <| @r_tuple2 _ _ _ _ _ _ _ _ _ _ _ _ _ Z fun d s Z => ?_) (by rfl) (by rfl) (by decide) (by decide)) (by rfl)) (by rfl) (by rfl) (by decide) (by decide)) (by rfl)) (by rfl) (by rfl) (by rfl)) (by rfl) (by rfl) (by rfl)
    refine h q (-r) _ d _ _ Z.done ?_ (Z.get (.head _)) (Z.nw _ (.head _)).2.2.2.1
    obtain ⟨f1, f2⟩ := fd
    rw [Int.mul_neg] at f1
    exact ⟨by lia, by (clear hb hbn hcnt room f1; lia)⟩
  rw [if_neg (by simpa using hb0)]
  refine @wpAny_execs_cons _ _ _ _ _ _ _ _ <| @wpAny_If _ _ _ _ _ _ _ _ _ _ <| @wpAny_isTrue_Compare1 _ _ _ _ _ _ _ _ _ _ _ ( @ld _ _ _ _ _ _ _ _ _ _ _ _ Z _ rfl ( @wpAny_Constant_int _ _ _ _ _ _ _ _ _ <| @lt_int _ _ _ _ _ _ _ _ _ _ <| @wpAny_truthy_bool _ _ _ _ _ _ ?_) (by rfl) (by rfl) (by decide) (by decide)) (by with_unfolding_all rfl)
  have Z := Z.tok (t := s.toks + 1 + 1 + 1)
  by_cases ha0 : a < 0
  · rw [if_pos (by simpa using ha0)]
    rcases H with H | ⟨j, rfl, H, H1, H2⟩
    · have := H a b hok; omega
    refine @wpAny_execs_cons _ _ _ _ _ _ _ _ <| @Assign_Tuple _ _ _ _ _ _ _ _ _ _ _ ( @c_call _ _ _ _ _ _ _ _ _ _ <| @ldg _ _ _ _ _ _ _ _ _ _ _ _ Z _ rfl ( r_callfn (i := 6) <| @a_cons _ _ _ _ _ _ _ _ _ ( @wpAny_UnaryOp _ _ _ _ _ _ _ _ _ <| @ld _ _ _ _ _ _ _ _ _ _ _ _ Z _ rfl ( @r_inv _ _ _ _ _ _ _ _ _ _ _ _ _ Z fun t s Z => @a_cons _ _ _ _ _ _ _ _ _ ( @ld _ _ _ _ _ _ _ _ _ _ _ _ Z _ rfl ( @args_nil _ _ _ _ _ _ _ ⟨(Z.g.fn 6 (by decide)).1, ?_⟩) (by rfl) (by rfl) (by decide) (by decide)) (by rfl)) (by rfl) (by rfl) (by decide) (by decide)) (by rfl)) (by rfl) (by rfl) (by rfl) (by decide)) (by rfl) (by rfl)
    refine H Z.g (by show A.depth + 1 + 13 + j ≤ _; omega) hh hb hbn (Nat.le_trans (bits_mono (by (clear hb hbn hcnt hb0 room; omega))) hcnt) (H2 _ _ hok (by lia) ha0) fun q r s' d t1 t2 l fd e1 e2 => ?_
    have Z := Z.join1 l ⟨e1, nofun, e2⟩
    refine @r_unpack2 _ _ _ _ _ _ _ _ _ _ _ _ _ _ _ _ _ _ _ _ Z hh (Z.get (.head _)) fun s Z => @stl _ _ _ _ _ _ _ _ _ _ _ Z _ (fun s Z => @stl _ _ _ _ _ _ _ _ _ _ _ Z _ (fun s Z => @wpAny_execs_cons _ _ _ _ _ _ _ _ <| @wpAny_Return_some _ _ _ _ _ _ _ _ <| @Tuple_ _ _ _ _ _ _ _ _ _ <| @a_cons _ _ _ _ _ _ _ _ _ ( @wpAny_UnaryOp _ _ _ _ _ _ _ _ _ <| @ld _ _ _ _ _ _ _ _ _ _ _ _ Z _ rfl ( @r_inv _ _ _ _ _ _ _ _ _ _ _ _ _ Z fun t s Z => @a_cons _ _ _ _ _ _ _ _ _ ( @wpAny_BinOp _ _ _ _ _ _ _ _ _ _ <| @ld _ _ _ _ _ _ _ _ _ _ _ _ Z _ rfl ( @wpAny_UnaryOp _ _ _ _ _ _ _ _ _ <| @ld _ _ _ _ _ _ _ _ _ _ _ _ Z _ rfl ( @r_inv _ _ _ _ _ _ _ _ _ _ _ _ _ Z fun t s Z => @r_add _ _ _ _ _ _ _ _ _ _ _ _ _ _ _ Z fun t s Z => @args_nil _ _ _ _ _ _ _ <| @r_tuple2 _ _ _ _ _ _ _ _ _ _ _ _ _ Z fun d s Z => ?_) (by rfl) (by rfl) (by decide) (by decide)) (by rfl) (by rfl) (by decide) (by decide)) (by rfl)) (by rfl) (by rfl) (by decide) (by decide)) (by rfl)) (by rfl) (by rfl) (by rfl)) (by rfl) (by rfl) (by rfl)
    refine h (-q - 1) (b + (-r - 1)) _ d _ _ Z.done ?_ (Z.get (.head _)) (Z.nw _ (.head _)).2.2.2.1
    obtain ⟨f1, f2⟩ := fd
    refine ⟨?_, by lia⟩
    rw [Int.sub_mul, Int.neg_mul, Int.one_mul]; lia
  rw [if_neg (by simpa using ha0)]
  obtain ⟨a', rfl⟩ := Int.eq_ofNat_of_zero_le (show 0 ≤ a by lia)
  obtain ⟨b', rfl⟩ := Int.eq_ofNat_of_zero_le (show 0 ≤ b by (clear H room hb hbn hcnt ha0; lia))
  have hb' : 0 < b' := by lia
  refine @wpAny_execs_cons _ _ _ _ _ _ _ _ <| @wpAny_Return_some _ _ _ _ _ _ _ _ <| @c_call _ _ _ _ _ _ _ _ _ _ <| @ldg _ _ _ _ _ _ _ _ _ _ _ _ Z _ rfl ( r_callfn (i := 5) <| @a_cons _ _ _ _ _ _ _ _ _ ( @ld _ _ _ _ _ _ _ _ _ _ _ _ Z _ rfl ( @a_cons _ _ _ _ _ _ _ _ _ ( @ld _ _ _ _ _ _ _ _ _ _ _ _ Z _ rfl ( @args_nil _ _ _ _ _ _ _ ⟨(Z.g.fn 5 (by decide)).1, ?_⟩) (by rfl) (by rfl) (by decide) (by decide)) (by rfl)) (by rfl) (by rfl) (by decide) (by decide)) (by rfl)) (by rfl) (by rfl) (by rfl) (by decide)
  refine @s_divmod_pos _ _ _ _ _ _ _ _ _ Z.g (by show A.depth + 1 + 12 ≤ _; lia) hh hb' hbn hcnt fun s' d t1 t2 l e1 e2 => ?_
  have Z := Z.join1 l ⟨e1, nofun, e2⟩
  refine h _ _ _ d _ _ Z.done ⟨?_, .inl ⟨by (clear H room ha0 hb hbn hb0 hcnt; lia), by lia, ?_⟩⟩ (Z.get (.head _)) (Z.nw _ (.head _)).2.2.2.1
  · have := Nat.div_add_mod' a' b'
    exact_mod_cast this
  · exact_mod_cast Nat.mod_lt _ hb'
theorem s_int_divmod : IntDiv w T 2 fun _ _ => True := by
  have H0 : IntDiv w T 0 fun a b => 0 < b ∧ 0 ≤ a := div_step (ok' := fun _ _ => True) (.inl fun a b h => h)
  have H1 : IntDiv w T 1 fun _ b => 0 < b := @div_step w T 1 (fun _ b => 0 < b) (fun a b => 0 < b ∧ 0 ≤ a) (.inr ⟨0, rfl, H0, fun a b h1 h2 => by omega, fun a b h1 h2 h3 => by lia⟩)
  exact @div_step w T 2 (fun _ _ => True) (fun _ b => 0 < b) (.inr ⟨1, rfl, H1, fun a b _ h => by lia, fun a b _ h _ => h⟩)
end
end Mine
namespace Mine
open PySem PySem.W PySem.Calls PyProof.Rows
noncomputable def unseen (p : Nat) : Nat := if p > 10 then 65013 + p else [173, 847, 6150, 6155, 6156, 6157, 8203, 8204, 8205, 8288, 65279].getD p 0
theorem bits_succ {x y : Int} (h : x.natAbs ≤ y.natAbs + 1) : Builtin.Int.intBits x ≤ Builtin.Int.intBits y + 1 := by
  have := bits_lt (Nat.le_refl (Builtin.Int.intBits y))
  refine bits_le ?_
  rw [Nat.pow_succ]; lia
section
variable {w : World} {T : Tops} {s₀ : Shared} {A : Around} {Q : Value → Shared → Prop}
theorem s_ISTERMINAL {a : Int} {t : Tok} (g : G w T s₀.heap) (room : A.depth < recursionLimit) (h : ∀ s', Later w T s₀ s' → Q (.bool (decide (a < 256))) s') :
    wpAny (model P31 w) A (call (.ref (T.f 9)) [.int a t]) Q NoE s₀ := by
  refine call_fn (i := 9) (binds := [("x", .int a t)]) (by decide) g room (by rfl) (by rfl) (by rfl) (fun s₁ Z => ?_) (by rfl) (by rfl) (by rfl)
  exact @wpAny_execs_cons _ _ _ _ _ _ _ _ <| @wpAny_Return_some _ _ _ _ _ _ _ _ <| @wpAny_Compare1 _ _ _ _ _ _ _ _ _ _ ( @ld _ _ _ _ _ _ _ _ _ _ _ _ Z _ rfl ( @ldg _ _ _ _ _ _ _ _ _ _ _ _ Z _ rfl ( @lt_int _ _ _ _ _ _ _ _ _ _ <| h _ Z.done) (by rfl) (by rfl) (by rfl) (by decide)) (by rfl) (by rfl) (by decide) (by decide)) (by with_unfolding_all rfl)
theorem s_ISNONTERMINAL {a : Int} {t : Tok} (g : G w T s₀.heap) (room : A.depth < recursionLimit) (h : ∀ s', Later w T s₀ s' → Q (.bool (decide (256 ≤ a))) s') :
    wpAny (model P31 w) A (call (.ref (T.f 10)) [.int a t]) Q NoE s₀ := by
  refine call_fn (i := 10) (binds := [("x", .int a t)]) (by decide) g room (by rfl) (by rfl) (by rfl) (fun s₁ Z => ?_) (by rfl) (by rfl) (by rfl)
  exact @wpAny_execs_cons _ _ _ _ _ _ _ _ <| @wpAny_Return_some _ _ _ _ _ _ _ _ <| @wpAny_Compare1 _ _ _ _ _ _ _ _ _ _ ( @ld _ _ _ _ _ _ _ _ _ _ _ _ Z _ rfl ( @ldg _ _ _ _ _ _ _ _ _ _ _ _ Z _ rfl ( @ge_int _ _ _ _ _ _ _ _ _ _ <| h _ Z.done) (by rfl) (by rfl) (by rfl) (by decide)) (by rfl) (by rfl) (by decide) (by decide)) (by with_unfolding_all rfl)
theorem s_ISEOF {a : Int} {t : Tok} (g : G w T s₀.heap) (room : A.depth < recursionLimit) (h : ∀ s', Later w T s₀ s' → Q (.bool (a == 0)) s') :
    wpAny (model P31 w) A (call (.ref (T.f 11)) [.int a t]) Q NoE s₀ := by
  refine call_fn (i := 11) (binds := [("x", .int a t)]) (by decide) g room (by rfl) (by rfl) (by rfl) (fun s₁ Z => ?_) (by rfl) (by rfl) (by rfl)
  exact @wpAny_execs_cons _ _ _ _ _ _ _ _ <| @wpAny_Return_some _ _ _ _ _ _ _ _ <| @wpAny_Compare1 _ _ _ _ _ _ _ _ _ _ ( @ld _ _ _ _ _ _ _ _ _ _ _ _ Z _ rfl ( @ldg _ _ _ _ _ _ _ _ _ _ _ _ Z _ rfl ( @eq_int _ _ _ _ _ _ _ _ _ _ <| h _ Z.done) (by rfl) (by rfl) (by rfl) (by decide)) (by rfl) (by rfl) (by decide) (by decide)) (by with_unfolding_all rfl)
theorem s_inb1 {c : Nat} {t : Tok} (g : G w T s₀.heap) (room : A.depth < recursionLimit) (h : ∀ s', Later w T s₀ s' → Q (.bool (b1S c)) s') :
    wpAny (model P31 w) A (call (.ref (T.f 7)) [.str ⟨#[c]⟩ t]) Q NoE s₀ := by
  refine call_fn (i := 7) (binds := [("code", .str ⟨#[c]⟩ t)]) (by decide) g room (by rfl) (by rfl) (by rfl) (fun s₁ Z => ?_) (by rfl) (by rfl) (by rfl)
  refine @wpAny_execs_cons _ _ _ _ _ _ _ _ <| @wpAny_Return_some _ _ _ _ _ _ _ _ <| @wpAny_Compare1 _ _ _ _ _ _ _ _ _ _ ( @c_call _ _ _ _ _ _ _ _ _ _ <| @ldb _ _ _ _ _ _ _ _ _ _ _ _ Z _ rfl ( @c_blt _ _ _ _ _ _ _ _ _ _ ( @a_cons _ _ _ _ _ _ _ _ _ ( @ld _ _ _ _ _ _ _ _ _ _ _ _ Z _ rfl ( @args_nil _ _ _ _ _ _ _ <| @PySem.P.ord_of_char _ _ _ _ _ _ _ _ <| @ldg _ _ _ _ _ _ _ _ _ _ _ _ Z.tok _ rfl (?_) (by rfl) (by rfl) (by rfl) (by decide)) (by rfl) (by rfl) (by decide) (by decide)) (by rfl)) (by rfl) (by rfl)) (by rfl) (by rfl) (by rfl) (by rfl) (by decide)) (by with_unfolding_all rfl)
  obtain ⟨o, n, ho, hc, hs, hn⟩ := Z.g.b1
  refine wpAny_inSet_of (knd := intKind P31 w) (k := (c : Int)) (S := b1S) (n := n) ?_ ?_ ?_ ?_
  · simp [intKind, Value.isInt]
  · rfl
  · obtain ⟨x, es, ep, t, e1, e2, e3, e4, e5⟩ := hs P31 w
    exact ⟨o, es, ep, t, ho, x, e1, e2, e3, by rw [e4]; exact hn, e5, e4⟩
  · exact h _ (Z.tok.tok).done
theorem s_inc9 {c : Nat} {t : Tok} (g : G w T s₀.heap) (room : A.depth < recursionLimit) (h : ∀ s', Later w T s₀ s' → Q (.bool (c9S c)) s') :
    wpAny (model P31 w) A (call (.ref (T.f 8)) [.str ⟨#[c]⟩ t]) Q NoE s₀ := by
  refine call_fn (i := 8) (binds := [("code", .str ⟨#[c]⟩ t)]) (by decide) g room (by rfl) (by rfl) (by rfl) (fun s₁ Z => ?_) (by rfl) (by rfl) (by rfl)
  refine @wpAny_execs_cons _ _ _ _ _ _ _ _ <| @wpAny_Return_some _ _ _ _ _ _ _ _ <| @wpAny_Compare1 _ _ _ _ _ _ _ _ _ _ ( @c_call _ _ _ _ _ _ _ _ _ _ <| @ldb _ _ _ _ _ _ _ _ _ _ _ _ Z _ rfl ( @c_blt _ _ _ _ _ _ _ _ _ _ ( @a_cons _ _ _ _ _ _ _ _ _ ( @ld _ _ _ _ _ _ _ _ _ _ _ _ Z _ rfl ( @args_nil _ _ _ _ _ _ _ <| @PySem.P.ord_of_char _ _ _ _ _ _ _ _ <| @ldg _ _ _ _ _ _ _ _ _ _ _ _ Z.tok _ rfl (?_) (by rfl) (by rfl) (by rfl) (by decide)) (by rfl) (by rfl) (by decide) (by decide)) (by rfl)) (by rfl) (by rfl)) (by rfl) (by rfl) (by rfl) (by rfl) (by decide)) (by with_unfolding_all rfl)
  obtain ⟨o, n, ho, hc, hs, hn⟩ := Z.g.c9
  refine wpAny_inSet_of (knd := intKind P31 w) (k := (c : Int)) (S := c9S) (n := n) ?_ ?_ ?_ ?_
  · simp [intKind, Value.isInt]
  · rfl
  · obtain ⟨x, es, ep, t, e1, e2, e3, e4, e5⟩ := hs P31 w
    exact ⟨o, es, ep, t, ho, x, e1, e2, e3, by rw [e4]; exact hn, e5, e4⟩
  · exact h _ (Z.tok.tok).done
theorem s_unseen {p : Nat} {t : Tok} (g : G w T s₀.heap) (room : A.depth < recursionLimit) (hp : p < 27) (h : ∀ s' t, Later w T s₀ s' → Q (.str ⟨#[unseen p]⟩ t) s') :
    wpAny (model P31 w) A (call (.ref (T.f 12)) [.int p t]) Q NoE s₀ := by
  refine call_fn (i := 12) (binds := [("place", .int p t)]) (by decide) g room (by rfl) (by rfl) (by rfl) (fun s Z => ?_) (by rfl) (by rfl) (by rfl)
  refine @wpAny_execs_cons _ _ _ _ _ _ _ _ <| @wpAny_If _ _ _ _ _ _ _ _ _ _ <| @wpAny_isTrue_Compare1 _ _ _ _ _ _ _ _ _ _ _ ( @ld _ _ _ _ _ _ _ _ _ _ _ _ Z _ rfl ( @wpAny_Constant_int _ _ _ _ _ _ _ _ _ <| @gt_int _ _ _ _ _ _ _ _ _ _ <| @wpAny_truthy_bool _ _ _ _ _ _ ?_) (by rfl) (by rfl) (by decide) (by decide)) (by with_unfolding_all rfl)
  by_cases hc : p > 10
  · rw [if_pos (by simp; lia)]
    refine @wpAny_execs_cons _ _ _ _ _ _ _ _ <| @wpAny_Return_some _ _ _ _ _ _ _ _ <| @c_call _ _ _ _ _ _ _ _ _ _ <| @ldb _ _ _ _ _ _ _ _ _ _ _ _ Z.tok _ rfl ( @c_blt _ _ _ _ _ _ _ _ _ _ ( @a_cons _ _ _ _ _ _ _ _ _ ( @wpAny_BinOp _ _ _ _ _ _ _ _ _ _ <| @wpAny_Constant_int _ _ _ _ _ _ _ _ _ <| @ld _ _ _ _ _ _ _ _ _ _ _ _ Z.tok _ rfl ( @r_add _ _ _ _ _ _ _ _ _ _ _ _ _ _ _ Z.tok fun t s Z => @args_nil _ _ _ _ _ _ _ <| @chr_of_range _ _ _ _ _ _ _ _ (by lia) (by lia) ?_) (by rfl) (by rfl) (by decide) (by decide)) (by rfl)) (by rfl) (by rfl)) (by rfl) (by rfl) (by rfl) (by rfl) (by decide)
    have e : ((65013 : Int) + p).toNat = unseen p := by unfold unseen; rw [if_pos hc]; omega
    rw [e]
    exact h _ _ Z.tok.done
  · rw [if_neg (by simp; lia)]
    have Z := Z.tok (t := s.toks + 1)
    refine @wpAny_execs_nil _ _ _ _ _ _ <| @wpAny_execs_cons _ _ _ _ _ _ _ _ <| @wpAny_Return_some _ _ _ _ _ _ _ _ ?_
    refine @c_call _ _ _ _ _ _ _ _ _ _ ?_
    refine @ldb _ _ _ _ _ _ _ _ _ _ _ _ Z _ rfl (?_) (by rfl) (by rfl) (by rfl) (by rfl) (by decide)
    refine @c_blt _ _ _ _ _ _ _ _ _ _ (?_) (by rfl) (by rfl)
    refine @a_cons _ _ _ _ _ _ _ _ _ (?_) (by rfl)
    refine @Subscript_ _ _ _ _ _ _ _ _ _ ?_
    refine @List_ _ _ _ _ _ _ _ _ ?_
    refine @args_ints _ _ _ _ _ _ _ _ _ _ [173, 847, 6150, 6155, 6156, 6157, 8203, 8204, 8205, 8288, 65279] _ _ _ (by rfl) Z fun vs s hv Z => ?_
    have hle : unseen p ≤ 65279 ∧ ([173, 847, 6150, 6155, 6156, 6157, 8203, 8204, 8205, 8288, 65279] : List Int).getD p 0 = (unseen p : Nat) := by
      rcases (show p = 0 ∨ p = 1 ∨ p = 2 ∨ p = 3 ∨ p = 4 ∨ p = 5 ∨ p = 6 ∨ p = 7 ∨ p = 8 ∨ p = 9 ∨ p = 10 by lia) with rfl | rfl | rfl | rfl | rfl | rfl | rfl | rfl | rfl | rfl | rfl <;> decide
    refine @r_newlist _ _ _ _ _ _ _ _ _ _ _ _ Z (by rw [hv.length]; decide) fun d s Z => ?_
    refine @ld _ _ _ _ _ _ _ _ _ _ _ _ Z _ rfl (?_) (by rfl) (by rfl) (by decide) (by decide)
    obtain ⟨t, e⟩ := ints_at hv (k := p) (by simp; lia)
    rw [hle.2] at e
    refine @st_list _ _ _ _ _ _ _ _ _ _ _ _ (isL_lst.list (Z.get (.head _))) (by lia) (by lia) (by rw [Int.toNat_natCast]; exact e) (?_) (by with_unfolding_all rfl)
    refine @args_nil _ _ _ _ _ _ _ <| @chr_of_range _ _ _ _ _ _ _ _ (by lia) (by lia) ?_
    rw [Int.toNat_natCast]
    exact h _ _ Z.tok.done
theorem s_divided {top low way : Int} {t1 t2 t3 : Tok} (g : G w T s₀.heap) (room : A.depth + 16 ≤ recursionLimit) (hh : A.handled = none) (htop : 0 ≤ top) (hlow : 0 < low) (hbn : Builtin.Int.intBits low ≤ 32000) (hcnt : Builtin.Int.intBits top + 1 ≤ 32 * Builtin.Int.intBits low)
    (h : ∀ q r s' d t1 t2, Later w T s₀ s' → FD top low q r → s'.heap.get? d = some (tupO #[.int q t1, .int r t2]) → s₀.heap.get? d = none → Q (.ref d) s') :
    wpAny (model P31 w) A (call (.ref (T.f 15)) [.int top t1, .int low t2, .int way t3]) Q NoE s₀ := by
  refine call_fn (i := 15) (binds := [("top", .int top t1), ("low", .int low t2), ("way", .int way t3)]) (by decide) g (by lia) (by rfl) (by rfl) (by rfl) (fun s Z => ?_) (by rfl) (by rfl) (by rfl)
  have room' : ∀ e, (A.deeper e).depth + 13 + 2 ≤ recursionLimit := fun e => by show A.depth + 1 + 13 + 2 ≤ _; lia
  have hl2 : Builtin.Int.intBits (-low) ≤ 32000 := Nat.le_trans (bits_mono (by lia)) hbn
  have hl3 : Builtin.Int.intBits low ≤ Builtin.Int.intBits (-low) := bits_mono (by (clear room htop hbn hcnt hl2; omega))
  have ht2 : Builtin.Int.intBits (-top) ≤ Builtin.Int.intBits top := bits_mono (by (clear room hlow hbn hcnt hl2 hl3; omega))
  have ht3 : Builtin.Int.intBits (-top - 1) ≤ Builtin.Int.intBits top + 1 := bits_succ (by (clear room hlow hbn hcnt hl2 hl3 ht2; omega))
  refine @wpAny_execs_cons _ _ _ _ _ _ _ _ <| @wpAny_If _ _ _ _ _ _ _ _ _ _ <| @wpAny_isTrue_Compare1 _ _ _ _ _ _ _ _ _ _ _ ( @ld _ _ _ _ _ _ _ _ _ _ _ _ Z _ rfl ( @wpAny_Constant_int _ _ _ _ _ _ _ _ _ <| @eq_int _ _ _ _ _ _ _ _ _ _ <| @wpAny_truthy_bool _ _ _ _ _ _ ?_) (by rfl) (by rfl) (by decide) (by decide)) (by with_unfolding_all rfl)
  have Z := Z.tok (t := s.toks + 1)
  by_cases h0 : way = 0
  · rw [if_pos (by simpa using h0)]
    refine @wpAny_execs_cons _ _ _ _ _ _ _ _ <| @wpAny_Return_some _ _ _ _ _ _ _ _ <| @c_call _ _ _ _ _ _ _ _ _ _ <| @ldg _ _ _ _ _ _ _ _ _ _ _ _ Z _ rfl ( r_callfn (i := 6) <| @a_cons _ _ _ _ _ _ _ _ _ ( @ld _ _ _ _ _ _ _ _ _ _ _ _ Z _ rfl ( @a_cons _ _ _ _ _ _ _ _ _ ( @ld _ _ _ _ _ _ _ _ _ _ _ _ Z _ rfl ( @args_nil _ _ _ _ _ _ _ ⟨(Z.g.fn 6 (by decide)).1, ?_⟩) (by rfl) (by rfl) (by decide) (by decide)) (by rfl)) (by rfl) (by rfl) (by decide) (by decide)) (by rfl)) (by rfl) (by rfl) (by rfl) (by decide)
    refine s_int_divmod Z.g (room' _) hh (by lia) hbn (by lia) trivial fun q r s' d t1 t2 l fd e1 e2 => ?_
    have Z := Z.join1 l ⟨e1, nofun, e2⟩
    exact h _ _ _ d _ _ Z.done fd (Z.get (.head _)) (Z.nw _ (.head _)).2.2.2.1
  rw [if_neg (by simpa using h0)]
  refine @wpAny_execs_nil _ _ _ _ _ _ <| @wpAny_execs_cons _ _ _ _ _ _ _ _ <| @wpAny_If _ _ _ _ _ _ _ _ _ _ <| @wpAny_isTrue_Compare1 _ _ _ _ _ _ _ _ _ _ _ ( @ld _ _ _ _ _ _ _ _ _ _ _ _ Z _ rfl ( @wpAny_Constant_int _ _ _ _ _ _ _ _ _ <| @eq_int _ _ _ _ _ _ _ _ _ _ <| @wpAny_truthy_bool _ _ _ _ _ _ ?_) (by rfl) (by rfl) (by decide) (by decide)) (by with_unfolding_all rfl)
  have Z := Z.tok (t := s.toks + 1 + 1)
  by_cases h1 : way = 1
  · rw [if_pos (by simpa using h1)]
    refine @wpAny_execs_cons _ _ _ _ _ _ _ _ <| @Assign_Tuple _ _ _ _ _ _ _ _ _ _ _ ( @c_call _ _ _ _ _ _ _ _ _ _ <| @ldg _ _ _ _ _ _ _ _ _ _ _ _ Z _ rfl ( r_callfn (i := 6) <| @a_cons _ _ _ _ _ _ _ _ _ ( @wpAny_UnaryOp _ _ _ _ _ _ _ _ _ <| @ld _ _ _ _ _ _ _ _ _ _ _ _ Z _ rfl ( @r_neg _ _ _ _ _ _ _ _ _ _ _ _ _ Z fun t s Z => @a_cons _ _ _ _ _ _ _ _ _ ( @wpAny_UnaryOp _ _ _ _ _ _ _ _ _ <| @ld _ _ _ _ _ _ _ _ _ _ _ _ Z _ rfl ( @r_neg _ _ _ _ _ _ _ _ _ _ _ _ _ Z fun t s Z => @args_nil _ _ _ _ _ _ _ ⟨(Z.g.fn 6 (by decide)).1, ?_⟩) (by rfl) (by rfl) (by decide) (by decide)) (by rfl)) (by rfl) (by rfl) (by decide) (by decide)) (by rfl)) (by rfl) (by rfl) (by rfl) (by decide)) (by rfl) (by rfl)
    refine s_int_divmod Z.g (room' _) hh (by (clear room htop hbn hcnt hl2 hl3 ht2 ht3 h0 h1; omega)) hl2 (by lia) trivial fun q r s' d t1 t2 l fd e1 e2 => ?_
    have Z := Z.join1 l ⟨e1, nofun, e2⟩
    refine @r_unpack2 _ _ _ _ _ _ _ _ _ _ _ _ _ _ _ _ _ _ _ _ Z hh (Z.get (.head _)) fun s Z => @stl _ _ _ _ _ _ _ _ _ _ _ Z _ (fun s Z => @stl _ _ _ _ _ _ _ _ _ _ _ Z _ (fun s Z => @wpAny_execs_cons _ _ _ _ _ _ _ _ <| @wpAny_Return_some _ _ _ _ _ _ _ _ <| @Tuple_ _ _ _ _ _ _ _ _ _ <| @a_cons _ _ _ _ _ _ _ _ _ ( @ld _ _ _ _ _ _ _ _ _ _ _ _ Z _ rfl ( @a_cons _ _ _ _ _ _ _ _ _ ( @wpAny_UnaryOp _ _ _ _ _ _ _ _ _ <| @ld _ _ _ _ _ _ _ _ _ _ _ _ Z _ rfl ( @r_neg _ _ _ _ _ _ _ _ _ _ _ _ _ Z fun t s Z => @args_nil _ _ _ _ _ _ _ <| @r_tuple2 _ _ _ _ _ _ _ _ _ _ _ _ _ Z fun d s Z => ?_) (by rfl) (by rfl) (by decide) (by decide)) (by rfl)) (by rfl) (by rfl) (by decide) (by decide)) (by rfl)) (by rfl) (by rfl) (by rfl)) (by rfl) (by rfl) (by rfl)
    refine h q (-r) _ d _ _ Z.done ?_ (Z.get (.head _)) (Z.nw _ (.head _)).2.2.2.1
    obtain ⟨f1, f2⟩ := fd
    rw [Int.mul_neg] at f1
    exact ⟨by (clear room htop hlow hbn hcnt hl2 hl3 ht2 ht3 h0 h1 f2; lia), by (clear room htop hbn hcnt hl2 hl3 ht2 ht3 h0 h1 f1; omega)⟩
  rw [if_neg (by simpa using h1)]
  refine @wpAny_execs_nil _ _ _ _ _ _ <| @wpAny_execs_cons _ _ _ _ _ _ _ _ <| @wpAny_If _ _ _ _ _ _ _ _ _ _ <| @wpAny_isTrue_Compare1 _ _ _ _ _ _ _ _ _ _ _ ( @ld _ _ _ _ _ _ _ _ _ _ _ _ Z _ rfl ( @wpAny_Constant_int _ _ _ _ _ _ _ _ _ <| @eq_int _ _ _ _ _ _ _ _ _ _ <| @wpAny_truthy_bool _ _ _ _ _ _ ?_) (by rfl) (by rfl) (by decide) (by decide)) (by with_unfolding_all rfl)
  have Z := Z.tok (t := s.toks + 1 + 1 + 1)
  by_cases h2 : way = 2
  · rw [if_pos (by simpa using h2)]
    refine @wpAny_execs_cons _ _ _ _ _ _ _ _ <| @Assign_Tuple _ _ _ _ _ _ _ _ _ _ _ ( @c_call _ _ _ _ _ _ _ _ _ _ <| @ldg _ _ _ _ _ _ _ _ _ _ _ _ Z _ rfl ( r_callfn (i := 6) <| @a_cons _ _ _ _ _ _ _ _ _ ( @wpAny_UnaryOp _ _ _ _ _ _ _ _ _ <| @ld _ _ _ _ _ _ _ _ _ _ _ _ Z _ rfl ( @r_inv _ _ _ _ _ _ _ _ _ _ _ _ _ Z fun t s Z => @a_cons _ _ _ _ _ _ _ _ _ ( @ld _ _ _ _ _ _ _ _ _ _ _ _ Z _ rfl ( @args_nil _ _ _ _ _ _ _ ⟨(Z.g.fn 6 (by decide)).1, ?_⟩) (by rfl) (by rfl) (by decide) (by decide)) (by rfl)) (by rfl) (by rfl) (by decide) (by decide)) (by rfl)) (by rfl) (by rfl) (by rfl) (by decide)) (by rfl) (by rfl)
    refine s_int_divmod Z.g (room' _) hh (by omega) hbn (by (clear room htop hlow hbn hl2 hl3 ht2 h0 h1 h2; lia)) trivial fun q r s' d t1 t2 l fd e1 e2 => ?_
    have Z := Z.join1 l ⟨e1, nofun, e2⟩
    refine @r_unpack2 _ _ _ _ _ _ _ _ _ _ _ _ _ _ _ _ _ _ _ _ Z hh (Z.get (.head _)) fun s Z => @stl _ _ _ _ _ _ _ _ _ _ _ Z _ (fun s Z => @stl _ _ _ _ _ _ _ _ _ _ _ Z _ (fun s Z => @wpAny_execs_cons _ _ _ _ _ _ _ _ <| @wpAny_Return_some _ _ _ _ _ _ _ _ <| @Tuple_ _ _ _ _ _ _ _ _ _ <| @a_cons _ _ _ _ _ _ _ _ _ ( @wpAny_UnaryOp _ _ _ _ _ _ _ _ _ <| @ld _ _ _ _ _ _ _ _ _ _ _ _ Z _ rfl ( @r_inv _ _ _ _ _ _ _ _ _ _ _ _ _ Z fun t s Z => @a_cons _ _ _ _ _ _ _ _ _ ( @wpAny_BinOp _ _ _ _ _ _ _ _ _ _ <| @ld _ _ _ _ _ _ _ _ _ _ _ _ Z _ rfl ( @wpAny_UnaryOp _ _ _ _ _ _ _ _ _ <| @ld _ _ _ _ _ _ _ _ _ _ _ _ Z _ rfl ( @r_inv _ _ _ _ _ _ _ _ _ _ _ _ _ Z fun t s Z => @r_add _ _ _ _ _ _ _ _ _ _ _ _ _ _ _ Z fun t s Z => @args_nil _ _ _ _ _ _ _ <| @r_tuple2 _ _ _ _ _ _ _ _ _ _ _ _ _ Z fun d s Z => ?_) (by rfl) (by rfl) (by decide) (by decide)) (by rfl) (by rfl) (by decide) (by decide)) (by rfl)) (by rfl) (by rfl) (by decide) (by decide)) (by rfl)) (by rfl) (by rfl) (by rfl)) (by rfl) (by rfl) (by rfl)
    refine h (-q - 1) (low + (-r - 1)) _ d _ _ Z.done ?_ (Z.get (.head _)) (Z.nw _ (.head _)).2.2.2.1
    obtain ⟨f1, f2⟩ := fd
    refine ⟨?_, by (clear room htop hbn hcnt hl2 hl3 ht2 ht3 h0 h1 h2 f1; omega)⟩
    rw [Int.sub_mul, Int.neg_mul, Int.one_mul]; (clear room htop hlow hbn hcnt hl2 hl3 ht2 ht3 h0 h1 h2 f2; lia)
  rw [if_neg (by simpa using h2)]
  refine @wpAny_execs_nil _ _ _ _ _ _ <| @wpAny_execs_cons _ _ _ _ _ _ _ _ <| @Assign_Tuple _ _ _ _ _ _ _ _ _ _ _ ( @c_call _ _ _ _ _ _ _ _ _ _ <| @ldg _ _ _ _ _ _ _ _ _ _ _ _ Z _ rfl ( r_callfn (i := 6) <| @a_cons _ _ _ _ _ _ _ _ _ ( @ld _ _ _ _ _ _ _ _ _ _ _ _ Z _ rfl ( @a_cons _ _ _ _ _ _ _ _ _ ( @wpAny_UnaryOp _ _ _ _ _ _ _ _ _ <| @ld _ _ _ _ _ _ _ _ _ _ _ _ Z _ rfl ( @r_neg _ _ _ _ _ _ _ _ _ _ _ _ _ Z fun t s Z => @args_nil _ _ _ _ _ _ _ ⟨(Z.g.fn 6 (by decide)).1, ?_⟩) (by rfl) (by rfl) (by decide) (by decide)) (by rfl)) (by rfl) (by rfl) (by decide) (by decide)) (by rfl)) (by rfl) (by rfl) (by rfl) (by decide)) (by rfl) (by rfl)
  refine s_int_divmod Z.g (room' _) hh (by (clear room htop hbn hcnt hl2 hl3 ht2 ht3 h0 h1 h2; omega)) hl2 (by lia) trivial fun q r s' d t1 t2 l fd e1 e2 => ?_
  have Z := Z.join1 l ⟨e1, nofun, e2⟩
  obtain ⟨f1, f2⟩ := fd
  rw [Int.mul_neg] at f1
  refine @r_unpack2 _ _ _ _ _ _ _ _ _ _ _ _ _ _ _ _ _ _ _ _ Z hh (Z.get (.head _)) fun s Z => @stl _ _ _ _ _ _ _ _ _ _ _ Z _ (fun s Z => @stl _ _ _ _ _ _ _ _ _ _ _ Z _ (fun s Z => @wpAny_execs_cons _ _ _ _ _ _ _ _ <| @wpAny_If _ _ _ _ _ _ _ _ _ _ <| @isTrue_and _ _ _ _ _ _ _ _ _ _ <| @wpAny_isTrue_Compare1 _ _ _ _ _ _ _ _ _ _ _ ( @ld _ _ _ _ _ _ _ _ _ _ _ _ Z _ rfl ( @wpAny_Constant_int _ _ _ _ _ _ _ _ _ <| @lt_int _ _ _ _ _ _ _ _ _ _ <| @wpAny_truthy_bool _ _ _ _ _ _ ?_) (by rfl) (by rfl) (by decide) (by decide)) (by with_unfolding_all rfl)) (by rfl) (by rfl) (by rfl)) (by rfl) (by rfl) (by rfl)
  have Z := Z.tok (t := s.toks + 1)
  by_cases hr : r < 0
  · rw [if_pos (by simpa using hr)]
    refine @isTrue_and _ _ _ _ _ _ _ _ _ _ <| @wpAny_isTrue_Compare1 _ _ _ _ _ _ _ _ _ _ _ ( @wpAny_BinOp _ _ _ _ _ _ _ _ _ _ <| @ld _ _ _ _ _ _ _ _ _ _ _ _ Z _ rfl ( @ld _ _ _ _ _ _ _ _ _ _ _ _ Z _ rfl ( @r_add _ _ _ _ _ _ _ _ _ _ _ _ _ _ _ Z fun t s Z => @wpAny_Constant_int _ _ _ _ _ _ _ _ _ <| @gt_int _ _ _ _ _ _ _ _ _ _ <| @wpAny_truthy_bool _ _ _ _ _ _ ?_) (by rfl) (by rfl) (by decide) (by decide)) (by rfl) (by rfl) (by decide) (by decide)) (by with_unfolding_all rfl)
    have Z := Z.tok (t := s.toks + 1)
    rw [if_pos (by simp; (clear room htop hbn hcnt hl2 hl3 ht2 ht3 h0 h1 h2 f1 hr; omega))]
    refine @isTrue_and_nil _ _ _ _ _ _ _ _ ?_
    refine @wpAny_execs_cons _ _ _ _ _ _ _ _ <| @wpAny_Return_some _ _ _ _ _ _ _ _ <| @Tuple_ _ _ _ _ _ _ _ _ _ <| @a_cons _ _ _ _ _ _ _ _ _ ( @wpAny_UnaryOp _ _ _ _ _ _ _ _ _ <| @ld _ _ _ _ _ _ _ _ _ _ _ _ Z _ rfl ( @r_inv _ _ _ _ _ _ _ _ _ _ _ _ _ Z fun t s Z => @a_cons _ _ _ _ _ _ _ _ _ ( @wpAny_BinOp _ _ _ _ _ _ _ _ _ _ <| @ld _ _ _ _ _ _ _ _ _ _ _ _ Z _ rfl ( @ld _ _ _ _ _ _ _ _ _ _ _ _ Z _ rfl ( @r_add _ _ _ _ _ _ _ _ _ _ _ _ _ _ _ Z fun t s Z => @args_nil _ _ _ _ _ _ _ <| @r_tuple2 _ _ _ _ _ _ _ _ _ _ _ _ _ Z fun d s Z => ?_) (by rfl) (by rfl) (by decide) (by decide)) (by rfl) (by rfl) (by decide) (by decide)) (by rfl)) (by rfl) (by rfl) (by decide) (by decide)) (by rfl)
    refine h (-q - 1) (low + r) _ d _ _ Z.done ⟨?_, by (clear room htop hbn hcnt hl2 hl3 ht2 ht3 h0 h1 h2 f1; lia)⟩ (Z.get (.head _)) (Z.nw _ (.head _)).2.2.2.1
    rw [Int.sub_mul, Int.neg_mul, Int.one_mul]; lia
  · rw [if_neg (by simpa using hr)]
    refine @wpAny_execs_nil _ _ _ _ _ _ <| @wpAny_execs_cons _ _ _ _ _ _ _ _ <| @wpAny_Return_some _ _ _ _ _ _ _ _ <| @Tuple_ _ _ _ _ _ _ _ _ _ <| @a_cons _ _ _ _ _ _ _ _ _ ( @wpAny_UnaryOp _ _ _ _ _ _ _ _ _ <| @ld _ _ _ _ _ _ _ _ _ _ _ _ Z _ rfl ( @r_neg _ _ _ _ _ _ _ _ _ _ _ _ _ Z fun t s Z => @a_cons _ _ _ _ _ _ _ _ _ ( @wpAny_UnaryOp _ _ _ _ _ _ _ _ _ <| @ld _ _ _ _ _ _ _ _ _ _ _ _ Z _ rfl ( @r_neg _ _ _ _ _ _ _ _ _ _ _ _ _ Z fun t s Z => @args_nil _ _ _ _ _ _ _ <| @r_tuple2 _ _ _ _ _ _ _ _ _ _ _ _ _ Z fun d s Z => ?_) (by rfl) (by rfl) (by decide) (by decide)) (by rfl)) (by rfl) (by rfl) (by decide) (by decide)) (by rfl)
    refine h (-q) (-r) _ d _ _ Z.done ⟨?_, by (clear room htop hbn hcnt hl2 hl3 ht2 ht3 h0 h1 h2 f1; omega)⟩ (Z.get (.head _)) (Z.nw _ (.head _)).2.2.2.1
    rw [Int.neg_mul]; (clear room htop hbn hcnt hl2 hl3 ht2 ht3 h0 h1 h2; lia)
end
end Mine
namespace Mine
open PySem PySem.W PySem.Calls PyProof.Rows PySem.Builtin.Str
section
variable {w : World} {T : Tops} {s₀ s : Shared} {env : Env} {m : Str → Option Value} {mus news : List (Addr × Obj)} {A : Around} {E : Value → Shared → Prop}
noncomputable def findIn (x y : Str) (lo hi : Nat) : Int := match occurrences x y lo hi 1 with
  | i :: _ => (i : Int)
  | [] => -1
theorem range_ints {n : Nat} {lo hi : Nat} {t u : Tok} {Q : Nat × Nat → Shared → Prop} (h : Q (lo, min hi n) s) : wpAny (model P31 w) A (searchRange n [.int (lo : Int) t, .int (hi : Int) u]) Q E s := by
  unfold searchRange
  have one : ∀ (i : Nat) (t : Tok) (Q : Int → Shared → Prop), Q (i : Int) s → wpAny (model P31 w) A (do
      if (← specialOf (.int (i : Int) t) "__index__").isNone then
        rule "str.search-range.no-index"
        raiseError "TypeError" "slice indices must be integers or None or have an __index__ method"
      let i ← asIndex (.int (i : Int) t)
      pure (max 0 (if i < 0 then i + n else i)) : Sem Int) Q E s := fun i t Q h => by
    refine @wpAny_bind _ _ _ _ _ _ _ _ _ (wpAny_specialOf (name := Str.ofString "__index__") (typeIs_int s i t) F.slot_int_index.lookup ?_)
    have e : max 0 (if (i : Int) < 0 then (i : Int) + n else i) = i := by
      rw [if_neg (by omega)]; omega
    exact @wpAny_pure _ _ _ _ _ _ _ (by rw [e]; exact h)
  refine @wpAny_bind _ _ _ _ _ _ _ _ _ (one lo t _ ?_)
  refine @wpAny_bind _ _ _ _ _ _ _ _ _ (one hi u _ ?_)
  exact @wpAny_pure _ _ _ _ _ _ _ (by simpa using h)
theorem call_find {x y : Str} {lo hi : Nat} {t u t1 t2 : Tok} {Q : Value → Shared → Prop} (h : Q (.int (findIn x y lo (min hi x.length)) s.toks) { s with toks := s.toks + 1 }) :
    wpAny (model P31 w) A (call (.builtin "str.find") [.str x t, .str y u, .int (lo : Int) t1, .int (hi : Int) t2]) Q E s := by
  refine @wpAny_call_entry _ _ _ _ _ _ _ _ _ _ _ _ F.slot_str_find (typeIs_str _ _ _) F.entry_str_find ?_ (F.args_str_find_4 _ _ _ _)
  unfold Builtin.«str.find» searchArgs
  refine @wpAny_bind _ _ _ _ _ _ _ _ _ (wpAny_bind (m := strSomeArgs _ _ _ _) (wpAny_of_eq (a := (Value.str x t, x, [.str y u, .int (lo : Int) t1, .int (hi : Int) t2])) rfl ?_))
  refine @wpAny_bind _ _ _ _ _ _ _ _ _ (wpAny_of_eq (a := y) rfl ?_)
  refine @wpAny_bind _ _ _ _ _ _ _ _ _ (@range_ints _ _ _ _ _ _ _ _ _ _ ?_)
  refine @wpAny_pure _ _ _ _ _ _ _ ?_
  unfold findIn at h
  show wpAny _ _ (match occurrences x y lo (min hi x.length) 1 with | i :: _ => retInt i | [] => (do rule "str.find.not-found"; retInt (-1))) _ _ _
  cases e : occurrences x y lo (min hi x.length) 1 with
  | nil => rw [e] at h; exact @wpAny_bind _ _ _ _ _ _ _ _ _ (@wpAny_rule _ _ _ _ _ _ (@wpAny_bind _ _ _ _ _ _ _ _ _ (@wpAny_mkInt _ _ _ _ _ _ (@wpAny_pure _ _ _ _ _ _ _ ⟨_, rfl, h⟩))))
  | cons i r => rw [e] at h; exact @wpAny_bind _ _ _ _ _ _ _ _ _ (@wpAny_mkInt _ _ _ _ _ _ (@wpAny_pure _ _ _ _ _ _ _ ⟨_, rfl, h⟩))
end
end Mine
namespace Mine
open PySem PySem.W PySem.Calls PyProof.Rows PySem.Builtin.Str
noncomputable abbrev dots : Str := "..."
noncomputable def ellGo (y : Str) (hi : Nat) : List Str → Nat → Bool
  | [], _ => true
  | x :: r, lo => if findIn y x lo hi < 0 then false else ellGo y hi r ((findIn y x lo hi).toNat + x.length)
noncomputable def ellChk (y : Str) (lo hi : Nat) (ws : List Str) : Bool := if lo > hi then false else ellGo y hi ws lo
noncomputable def ellEnd (y : Str) (lo : Nat) (ws : List Str) : Bool :=
  if (ws.getLastD dots).length = 0 then ellChk y lo y.length ws
  else if Txt.endswith y (ws.getLastD dots) then ellChk y lo (y.length - (ws.getLastD dots).length) ws.dropLast else false
noncomputable def ellTop (y : Str) (ws : List Str) : Bool :=
  if (ws.headD dots).length = 0 then ellEnd y 0 ws
  else if Txt.startswith y (ws.headD dots) then ellEnd y (ws.headD dots).length ws.tail else false
noncomputable def ellM (x y : Str) : Bool := if Txt.contains x dots then ellTop y (Txt.split x dots) else x == y
section
variable {w : World} {T : Tops} {s₀ s : Shared} {env : Env} {m : Str → Option Value} {mus news : List (Addr × Obj)} {A : Around}
theorem r_split {E : Value → Shared → Prop} {Q : Value → Shared → Prop} {x y : Str} {t u : Tok} (Z : St w T s₀ env m mus news s) (hy : (y.length == 0) = false) (hsz : x.length + 2 ≤ sizeLine)
    (h : ∀ D l s, l.map (·.1) = Txt.split x y → St w T s₀ env m ((D, lstO (strValues l).toArray 0) :: mus) news s → Q (.ref D) s) : wpAny (model P31 w) A (call (.builtin "str.split") [.str x t, .str y u]) Q E s := by
  obtain ⟨hb, X, ml, F, N, K⟩ := Z.fr
  refine @splitN1 _ _ _ _ _ _ _ _ _ _ _ _ _ _ F N hy (fun l h' k e F' N' => ?_) hsz
  have hD := N' _ (.head _)
  have Y := K h' k [] F' (fun p hp => N' p (.tail _ hp)) (fun _ hp => absurd hp List.not_mem_nil)
  exact h _ l _ e (Y.addM Z fresh_size hD.1 isL_lst.mu)
theorem r_delAt {E : Value → Shared → Prop} {Q : Unit → Shared → Prop} {D : Addr} {xs : Array Value} {n : Nat} {i : Int} {u : Tok} {k : Nat} (Z : St w T s₀ env m ((D, lstO xs n) :: mus) news s)
    (hfit : Builtin.List.listFitsIndex i = true) (hk : seqIndex? i xs.size = some k) (hsz : xs.size ≤ sizeLine)
    (h : ∀ n s, St w T s₀ env m ((D, lstO (xs.toList.eraseIdx k).toArray n) :: mus) news s → Q () s) : wpAny (model P31 w) A (delItem (.ref D) (.int i u)) Q E s :=
  @delItem_at _ _ _ _ _ _ _ _ _ _ _ _ (Z.getM (.head _)) hfit hk (fun h' hs ho => h _ _ (Z.turn (t := s.toks) (SameBut.kp hs) ho isL_lst.mu)) hsz
theorem getN {xs : Array Value} {D : Addr} {value slice : Expr} {u : Tok} {v : Value} {E : Value → Shared → Prop} {Q : Value → Shared → Prop} (hl : s.heap.IsList D xs) (hx : xs[xs.size - 1]? = some v) (hs0 : 0 < xs.size) (h : Q v s)
    (hs : subscripted slice false (.ref D) (.int (-1) u) = operate [.ref D, .int (-1) u] (getItem (.ref D) (.int (-1) u)) := by with_unfolding_all rfl) : wpAny (model P31 w) A (subscriptTail value slice (.ref D) (.int (-1) u)) Q E s :=
  @st_builtin _ _ _ _ _ _ _ _ _ _ _ hl.typeIs slot_list_getitem.lookup (@wpAny_getItem_list_neg _ _ _ _ _ _ _ _ _ _ _ hl (by omega) (by lia) (by decide) (by rw [show ((-1 : Int) + xs.size).toNat = xs.size - 1 by lia]; exact hx) h) hs
end
section
variable {w : World} {T : Tops} {s₀ s : Shared} {m : Str → Option Value} {mus news : List (Addr × Obj)} {A : Around} {Q : Value → Shared → Prop} {x y : Str} {L : Addr}
noncomputable abbrev rest0 (k : Nat) : List Stmt := (fBody (fAt 0)).drop k
noncomputable abbrev P0 (w : World) (A : Around) (k : Nat) (L : Addr) (T : Tops) (Q : Value → Shared → Prop) (s : Shared) : Prop :=
  wpAny (model P31 w) A (execs (rest0 k) (envF T 0 L)) (fun f s' => Q (match f with | .ret v => v | _ => .none) s') NoE s
theorem e_chk {D : Addr} {l : List (Str × Tok)} {lo hi n : Nat} {tg t1 t2 : Tok} (Z : St w T s₀ (envF T 0 L) m ((D, lstO (strValues l).toArray n) :: mus) news s) (hh : A.handled = none)
    (m1 : m "got" = some (.str y tg)) (m2 : m "ws" = some (.ref D)) (m3 : m "startpos" = some (.int (lo : Int) t1)) (m4 : m "endpos" = some (.int (hi : Int) t2)) (hhi : hi ≤ y.length) (hsz : ∀ p ∈ l, p.1.length < 2 ^ 60)
    (h : ∀ s', Later w T s₀ s' → Q (.bool (ellChk y lo hi (l.map (·.1)))) s') : P0 w A 8 L T Q s := by
  refine @wpAny_execs_cons _ _ _ _ _ _ _ _ <| @wpAny_If _ _ _ _ _ _ _ _ _ _ <| @wpAny_isTrue_Compare1 _ _ _ _ _ _ _ _ _ _ _ ( @ld _ _ _ _ _ _ _ _ _ _ _ _ Z _ m3 ( @ld _ _ _ _ _ _ _ _ _ _ _ _ Z _ m4 ( @gt_int _ _ _ _ _ _ _ _ _ _ <| @wpAny_truthy_bool _ _ _ _ _ _ ?_) (by rfl) (by rfl) (by decide) (by decide)) (by rfl) (by rfl) (by decide) (by decide)) (by with_unfolding_all rfl)
  by_cases hc : lo > hi
  · rw [if_pos (by simp; lia)]
    have := h _ Z.done
    unfold ellChk at this
    rw [if_pos hc] at this
    exact @wpAny_execs_cons _ _ _ _ _ _ _ _ <| @wpAny_Return_some _ _ _ _ _ _ _ _ <| @wpAny_Constant_bool _ _ _ _ _ _ _ _ _ this
  rw [if_neg (by simp; lia)]
  refine @wpAny_execs_nil _ _ _ _ _ _ ?_
  have Z := Z.freeze
  refine @wpAny_execs_cons _ _ _ _ _ _ _ _ <| @wpAny_For _ _ _ _ _ _ _ _ _ _ _ ( @ld _ _ _ _ _ _ _ _ _ _ _ _ Z _ m2 ( @r_iterList _ _ _ _ _ _ _ _ _ _ _ _ _ _ _ Z hh (Z.get (.head _)) isL_lst
    (fun i m _ news => ∃ lo' t, m "got" = some (.str y tg) ∧ m "startpos" = some (.int ((lo' : Nat) : Int) t) ∧ m "endpos" = some (.int (hi : Int) t2) ∧ ellGo y hi ((l.map (·.1)).drop i) lo' = ellGo y hi (l.map (·.1)) lo ∧ (D, lstO (strValues l).toArray n) ∈ news) ?_ ?_ ?_ (?_) (by intro _ _; rfl)) (by rfl) (by rfl) (by decide) (by decide)) (by intro _; rfl)
  · rintro i m mus news s ⟨_, _, _, _, _, _, k⟩ Z
    exact Z.get k
  · exact ⟨lo, t1, m1, m3, m4, rfl, .head _⟩
  · rintro I i m mus news oI v s hi' ⟨lo', t', m1, m3, m4, k1, k2⟩ hv Z
    have hi2 : i < l.length := by simpa [strValues] using hi'
    obtain rfl : v = .str l[i].1 l[i].2 := by
      simp [strValues, hi2] at hv
      exact hv.symm
    have hd : (l.map (·.1)).drop i = l[i].1 :: (l.map (·.1)).drop (i + 1) := by
      rw [List.drop_eq_getElem_cons (by simpa using hi2)]; simp
    rw [hd] at k1
    have k1 : (if findIn y l[i].1 lo' hi < 0 then false else ellGo y hi ((l.map (·.1)).drop (i + 1)) ((findIn y l[i].1 lo' hi).toNat + l[i].1.length)) = ellGo y hi (l.map (·.1)) lo := k1
    have hxl : l[i].1.length < 2 ^ 60 := hsz _ (List.getElem_mem hi2)
    generalize l[i].1 = x at *
    generalize l[i].2 = tx at *
    refine @wpAny_assign_Name _ _ _ _ _ _ _ _ _ <| @stl _ _ _ _ _ _ _ _ _ _ _ Z _ (fun s Z => @wpAny_execs_cons _ _ _ _ _ _ _ _ <| @wpAny_Assign_Name _ _ _ _ _ _ _ _ _ _ ( @MethodCall_ _ _ _ _ _ _ _ _ _ _ _ _ ( @ld _ _ _ _ _ _ _ _ _ _ _ _ Z _ m1 ( @PySem.GM.find _ _ _ _ _ _ _ _ <| @c_meth _ _ _ _ _ _ _ _ _ _ _ ( @a_cons _ _ _ _ _ _ _ _ _ ( @ld _ _ _ _ _ _ _ _ _ _ _ _ Z _ rfl ( @a_cons _ _ _ _ _ _ _ _ _ ( @ld _ _ _ _ _ _ _ _ _ _ _ _ Z _ m3 ( @a_cons _ _ _ _ _ _ _ _ _ ( @ld _ _ _ _ _ _ _ _ _ _ _ _ Z _ m4 ( @args_nil _ _ _ _ _ _ _ <| @call_find _ _ _ _ _ _ _ _ _ _ _ _ _ ?_) (by rfl) (by rfl) (by decide) (by decide)) (by rfl)) (by rfl) (by rfl) (by decide) (by decide)) (by rfl)) (by rfl) (by rfl) (by decide) (by decide)) (by rfl)) (by rfl) (by rfl)) (by rfl) (by rfl) (by decide) (by decide)) (by rfl)) (by rfl)) (by rfl) (by rfl) (by rfl)
    rw [Nat.min_eq_left hhi]
    refine @stl _ _ _ _ _ _ _ _ _ _ _ Z.tok _ (fun s Z => @wpAny_execs_cons _ _ _ _ _ _ _ _ <| @wpAny_If _ _ _ _ _ _ _ _ _ _ <| @wpAny_isTrue_Compare1 _ _ _ _ _ _ _ _ _ _ _ ( @ld _ _ _ _ _ _ _ _ _ _ _ _ Z _ rfl ( @wpAny_Constant_int _ _ _ _ _ _ _ _ _ <| @lt_int _ _ _ _ _ _ _ _ _ _ <| @wpAny_truthy_bool _ _ _ _ _ _ ?_) (by rfl) (by rfl) (by decide) (by decide)) (by with_unfolding_all rfl)) (by rfl) (by rfl) (by rfl)
    by_cases hn : findIn y x lo' hi < 0
    · rw [if_pos (by simpa using hn)]
      rw [if_pos hn] at k1
      refine @wpAny_execs_cons _ _ _ _ _ _ _ _ <| @wpAny_Return_some _ _ _ _ _ _ _ _ <| @wpAny_Constant_bool _ _ _ _ _ _ _ _ _ ?_
      have e : ellChk y lo hi (l.map (·.1)) = false := by unfold ellChk; rw [if_neg hc]; exact k1.symm
      rw [e] at h
      exact h _ Z.tok.done
    · rw [if_neg (by simpa using hn)]
      rw [if_neg hn] at k1
      obtain ⟨j, hj⟩ : ∃ j : Nat, findIn y x lo' hi = j := ⟨_, (Int.toNat_of_nonneg (by lia)).symm⟩
      rw [hj, Int.toNat_natCast] at k1
      rw [hj] at Z
      refine @wpAny_execs_nil _ _ _ _ _ _ <| @wpAny_execs_cons _ _ _ _ _ _ _ _ <| @wpAny_AugAssign_Name _ _ _ _ _ _ _ _ _ _ _ <| @ldn _ _ _ _ _ _ _ _ _ _ _ Z.tok _ rfl ( @c_call _ _ _ _ _ _ _ _ _ _ <| @ldb _ _ _ _ _ _ _ _ _ _ _ _ Z.tok _ rfl ( @c_blt _ _ _ _ _ _ _ _ _ _ ( @a_cons _ _ _ _ _ _ _ _ _ ( @ld _ _ _ _ _ _ _ _ _ _ _ _ Z.tok _ rfl ( @args_nil _ _ _ _ _ _ _ <| @len_str _ _ _ _ _ _ _ _ (by lia) <| @r_iadd _ _ _ _ _ _ _ _ _ _ _ _ _ _ _ Z.tok.tok fun t s Z => @stl _ _ _ _ _ _ _ _ _ _ _ Z _ (fun s Z => @wpAny_execs_nil _ _ _ _ _ _ ?_) (by rfl) (by rfl) (by rfl)) (by rfl) (by rfl) (by decide) (by decide)) (by rfl)) (by rfl) (by rfl)) (by rfl) (by rfl) (by rfl) (by rfl) (by decide)) (by rfl) (by rfl) (by decide)
      exact ⟨_, _, _, Z, j + x.length, _, m1, by show some _ = _; push_cast; rfl, m4, k1, k2⟩
  · rintro m mus news s ⟨_, _, _, _, _, k1, _⟩ Z
    have : (l.map (·.1)).drop (strValues l).toArray.size = [] := by simp [strValues]
    rw [this] at k1
    refine @wpAny_execs_cons _ _ _ _ _ _ _ _ <| @wpAny_Return_some _ _ _ _ _ _ _ _ <| @wpAny_Constant_bool _ _ _ _ _ _ _ _ _ ?_
    have := h _ Z.done
    unfold ellChk at this
    rw [if_neg hc, ← k1] at this
    exact this
theorem e_end {D : Addr} {l : List (Str × Tok)} {lo n : Nat} {tg t1 t2 : Tok} (Z : St w T s₀ (envF T 0 L) m ((D, lstO (strValues l).toArray n) :: mus) news s) (hh : A.handled = none)
    (m1 : m "got" = some (.str y tg)) (m2 : m "ws" = some (.ref D)) (m3 : m "startpos" = some (.int (lo : Int) t1)) (m4 : m "endpos" = some (.int (y.length : Int) t2)) (hl : l ≠ []) (hln : l.length ≤ 2 ^ 20) (hsz : ∀ p ∈ l, p.1.length < 2 ^ 60)
    (h : ∀ s', Later w T s₀ s' → Q (.bool (ellEnd y lo (l.map (·.1)))) s') : P0 w A 6 L T Q s := by
  obtain ⟨l', ⟨x, tx⟩, rfl⟩ : ∃ l' p, l = l' ++ [p] := ⟨l.dropLast, l.getLast hl, (List.dropLast_concat_getLast hl).symm⟩
  have hxl : x.length < 2 ^ 60 := hsz (x, tx) (by simp)
  have hsv : (strValues (l' ++ [(x, tx)])).toArray.size = l'.length + 1 := by simp [strValues]
  have e1 : ((l' ++ [(x, tx)]).map (·.1)).getLastD dots = x := by simp
  have e2 : ((l' ++ [(x, tx)]).map (·.1)).dropLast = l'.map (·.1) := by simp
  unfold ellEnd at h
  rw [e1, e2] at h
  refine @wpAny_execs_cons _ _ _ _ _ _ _ _ <| @wpAny_Assign_Name _ _ _ _ _ _ _ _ _ _ ( @Subscript_ _ _ _ _ _ _ _ _ _ <| @ld _ _ _ _ _ _ _ _ _ _ _ _ Z _ m2 ( eval_lit (i := -1) rfl Z fun t s Z => getN (v := .str x tx) (isL_lst.list (Z.getM (.head _))) (by rw [hsv]; simp [strValues]) (by lia) ?_) (by rfl) (by rfl) (by decide) (by decide)) (by rfl)
  refine @stl _ _ _ _ _ _ _ _ _ _ _ Z _ (fun s Z => @wpAny_execs_cons _ _ _ _ _ _ _ _ <| @wpAny_If _ _ _ _ _ _ _ _ _ _ <| @isTrue_plain _ _ _ _ _ _ _ _ ( @ld _ _ _ _ _ _ _ _ _ _ _ _ Z _ rfl ( @PySem.P.truthy_str _ _ _ _ _ _ _ _ (by lia) ?_) (by rfl) (by rfl) (by decide) (by decide)) (by rfl)) (by rfl) (by rfl) (by rfl)
  have Z := Z.tok (t := s.toks + 1 + 1)
  by_cases h0 : x.length = 0
  · rw [if_pos h0] at h
    rw [if_neg (by simpa using h0)]
    refine @wpAny_execs_nil _ _ _ _ _ _ ?_
    exact @e_chk _ _ _ _ _ _ _ _ _ _ _ _ _ _ _ _ _ _ _ Z hh m1 m2 m3 m4 (Nat.le_refl _) hsz h
  rw [if_neg h0] at h
  rw [if_pos (by simpa using h0)]
  refine @wpAny_execs_cons _ _ _ _ _ _ _ _ <| @wpAny_If _ _ _ _ _ _ _ _ _ _ <| @isTrue_plain _ _ _ _ _ _ _ _ ( @MethodCall_ _ _ _ _ _ _ _ _ _ _ _ _ ( @ld _ _ _ _ _ _ _ _ _ _ _ _ Z _ m1 ( @PySem.GM.endswith _ _ _ _ _ _ _ _ <| @c_meth _ _ _ _ _ _ _ _ _ _ _ ( @a_cons _ _ _ _ _ _ _ _ _ ( @ld _ _ _ _ _ _ _ _ _ _ _ _ Z _ rfl ( @args_nil _ _ _ _ _ _ _ <| @PySem.SC.endswith _ _ _ _ _ _ _ _ _ _ <| @wpAny_truthy_bool _ _ _ _ _ _ ?_) (by rfl) (by rfl) (by decide) (by decide)) (by rfl)) (by rfl) (by rfl)) (by rfl) (by rfl) (by decide) (by decide)) (by rfl)) (by rfl)
  by_cases he : Txt.endswith y x = true
  · rw [if_pos he] at h ⊢
    have hle : x.length ≤ y.length := by
      have he' := he
      simp only [Txt.endswith, Bool.and_eq_true, decide_eq_true_eq] at he'
      lia
    refine @wpAny_execs_cons _ _ _ _ _ _ _ _ <| @wpAny_AugAssign_Name _ _ _ _ _ _ _ _ _ _ _ <| @ldn _ _ _ _ _ _ _ _ _ _ _ Z _ m4 ( @c_call _ _ _ _ _ _ _ _ _ _ <| @ldb _ _ _ _ _ _ _ _ _ _ _ _ Z _ rfl ( @c_blt _ _ _ _ _ _ _ _ _ _ ( @a_cons _ _ _ _ _ _ _ _ _ ( @ld _ _ _ _ _ _ _ _ _ _ _ _ Z _ rfl ( @args_nil _ _ _ _ _ _ _ <| @len_str _ _ _ _ _ _ _ _ (by lia) <| @r_isub _ _ _ _ _ _ _ _ _ _ _ _ _ _ _ Z.tok fun t s Z => @stl _ _ _ _ _ _ _ _ _ _ _ Z _ (fun s Z => ?_) (by rfl) (by rfl) (by rfl)) (by rfl) (by rfl) (by decide) (by decide)) (by rfl)) (by rfl) (by rfl)) (by rfl) (by rfl) (by rfl) (by rfl) (by decide)) (by rfl) (by rfl) (by decide)
    refine @wpAny_execs_cons _ _ _ _ _ _ _ _ <| @wpAny_Delete _ _ _ _ _ _ _ _ <| @wpAny_deleteEach_cons _ _ _ _ _ _ _ _ <| @wpAny_delete_Subscript _ _ _ _ _ _ _ _ _ <| @ld _ _ _ _ _ _ _ _ _ _ _ _ Z _ m2 ( eval_lit (i := -1) rfl Z fun t s Z => r_delAt (k := l'.length) Z (by decide) (by rw [hsv]; unfold seqIndex?; simp; (clear hln hxl hsv h0 hle; lia)) (by rw [hsv]; simp at hln; unfold sizeLine; lia) fun n s Z => @wpAny_deleteEach_nil _ _ _ _ _ _ ?_) (by rfl) (by rfl) (by decide) (by decide)
    refine @wpAny_execs_nil _ _ _ _ _ _ <| @wpAny_execs_nil _ _ _ _ _ _ ?_
    have e3 : ((strValues (l' ++ [(x, tx)])).toArray.toList.eraseIdx l'.length).toArray = (strValues l').toArray := by
      simp [strValues, List.eraseIdx_append_of_length_le]
    rw [e3] at Z
    exact e_chk Z hh m1 m2 m3 (hi := y.length - x.length) (by show some _ = _; rw [Int.natCast_sub hle]) (by (clear hln hsv h0; lia)) (fun p hp => hsz p (by simp [hp])) h
  · rw [if_neg he] at h ⊢
    exact @wpAny_execs_cons _ _ _ _ _ _ _ _ <| @wpAny_Return_some _ _ _ _ _ _ _ _ <| @wpAny_Constant_bool _ _ _ _ _ _ _ _ _ <| h _ Z.done
theorem e_top {D : Addr} {l : List (Str × Tok)} {n : Nat} {tg t1 t2 : Tok} (Z : St w T s₀ (envF T 0 L) m ((D, lstO (strValues l).toArray n) :: mus) news s) (hh : A.handled = none)
    (m1 : m "got" = some (.str y tg)) (m2 : m "ws" = some (.ref D)) (m3 : m "startpos" = some (.int (0 : Int) t1)) (m4 : m "endpos" = some (.int (y.length : Int) t2)) (hl : 2 ≤ l.length) (hln : l.length ≤ 2 ^ 20) (hsz : ∀ p ∈ l, p.1.length < 2 ^ 60)
    (h : ∀ s', Later w T s₀ s' → Q (.bool (ellTop y (l.map (·.1)))) s') : P0 w A 4 L T Q s := by
  obtain ⟨⟨x, tx⟩, l', rfl⟩ : ∃ p l', l = p :: l' := by
    cases l with
    | nil => simp at hl
    | cons p l' => exact ⟨p, l', rfl⟩
  have hxl : x.length < 2 ^ 60 := hsz (x, tx) (by simp)
  have hsv : (strValues ((x, tx) :: l')).toArray.size = l'.length + 1 := by simp [strValues]
  have hl' : l' ≠ [] := by rintro rfl; simp at hl
  unfold ellTop at h
  rw [show (((x, tx) :: l').map (·.1)).headD dots = x from rfl, show (((x, tx) :: l').map (·.1)).tail = l'.map (·.1) from rfl] at h
  refine @wpAny_execs_cons _ _ _ _ _ _ _ _ <| @wpAny_Assign_Name _ _ _ _ _ _ _ _ _ _ ( @Subscript_ _ _ _ _ _ _ _ _ _ <| @ld _ _ _ _ _ _ _ _ _ _ _ _ Z _ m2 ( eval_lit (i := 0) rfl Z fun t s Z => st_list (x := .str x tx) (isL_lst.list (Z.getM (.head _))) (by lia) (by lia) (by rfl) ?_) (by rfl) (by rfl) (by decide) (by decide)) (by rfl)
  refine @stl _ _ _ _ _ _ _ _ _ _ _ Z _ (fun s Z => @wpAny_execs_cons _ _ _ _ _ _ _ _ <| @wpAny_If _ _ _ _ _ _ _ _ _ _ <| @isTrue_plain _ _ _ _ _ _ _ _ ( @ld _ _ _ _ _ _ _ _ _ _ _ _ Z _ rfl ( @PySem.P.truthy_str _ _ _ _ _ _ _ _ (by lia) ?_) (by rfl) (by rfl) (by decide) (by decide)) (by rfl)) (by rfl) (by rfl) (by rfl)
  have Z := Z.tok (t := s.toks + 1 + 1)
  by_cases h0 : x.length = 0
  · rw [if_pos h0] at h
    rw [if_neg (by simpa using h0)]
    refine @wpAny_execs_nil _ _ _ _ _ _ ?_
    exact e_end (lo := 0) Z hh m1 m2 m3 m4 (by simp) hln hsz h
  rw [if_neg h0] at h
  rw [if_pos (by simpa using h0)]
  refine @wpAny_execs_cons _ _ _ _ _ _ _ _ <| @wpAny_If _ _ _ _ _ _ _ _ _ _ <| @isTrue_plain _ _ _ _ _ _ _ _ ( @MethodCall_ _ _ _ _ _ _ _ _ _ _ _ _ ( @ld _ _ _ _ _ _ _ _ _ _ _ _ Z _ m1 ( @PySem.GM.startswith _ _ _ _ _ _ _ _ <| @c_meth _ _ _ _ _ _ _ _ _ _ _ ( @a_cons _ _ _ _ _ _ _ _ _ ( @ld _ _ _ _ _ _ _ _ _ _ _ _ Z _ rfl ( @args_nil _ _ _ _ _ _ _ <| @PySem.SC.startswith _ _ _ _ _ _ _ _ _ _ <| @wpAny_truthy_bool _ _ _ _ _ _ ?_) (by rfl) (by rfl) (by decide) (by decide)) (by rfl)) (by rfl) (by rfl)) (by rfl) (by rfl) (by decide) (by decide)) (by rfl)) (by rfl)
  by_cases he : Txt.startswith y x = true
  · rw [if_pos he] at h ⊢
    refine @wpAny_execs_cons _ _ _ _ _ _ _ _ <| @wpAny_Assign_Name _ _ _ _ _ _ _ _ _ _ ( @c_call _ _ _ _ _ _ _ _ _ _ <| @ldb _ _ _ _ _ _ _ _ _ _ _ _ Z _ rfl ( @c_blt _ _ _ _ _ _ _ _ _ _ ( @a_cons _ _ _ _ _ _ _ _ _ ( @ld _ _ _ _ _ _ _ _ _ _ _ _ Z _ rfl ( @args_nil _ _ _ _ _ _ _ <| @len_str _ _ _ _ _ _ _ _ (by omega) <| @stl _ _ _ _ _ _ _ _ _ _ _ Z.tok _ (fun s Z => ?_) (by rfl) (by rfl) (by rfl)) (by rfl) (by rfl) (by decide) (by decide)) (by rfl)) (by rfl) (by rfl)) (by rfl) (by rfl) (by rfl) (by rfl) (by decide)) (by rfl)
    refine @wpAny_execs_cons _ _ _ _ _ _ _ _ <| @wpAny_Delete _ _ _ _ _ _ _ _ <| @wpAny_deleteEach_cons _ _ _ _ _ _ _ _ <| @wpAny_delete_Subscript _ _ _ _ _ _ _ _ _ <| @ld _ _ _ _ _ _ _ _ _ _ _ _ Z _ m2 ( eval_lit (i := 0) rfl Z fun t s Z => r_delAt (k := 0) Z (by decide) (by rw [hsv]; unfold seqIndex?; simp) (by rw [hsv]; simp at hln; unfold sizeLine; lia) fun n s Z => @wpAny_deleteEach_nil _ _ _ _ _ _ ?_) (by rfl) (by rfl) (by decide) (by decide)
    refine @wpAny_execs_nil _ _ _ _ _ _ <| @wpAny_execs_nil _ _ _ _ _ _ ?_
    exact e_end (l := l') Z hh m1 m2 rfl m4 hl' (by simp at hln; lia) (fun p hp => hsz p (by simp [hp])) h
  · rw [if_neg he] at h ⊢
    exact @wpAny_execs_cons _ _ _ _ _ _ _ _ <| @wpAny_Return_some _ _ _ _ _ _ _ _ <| @wpAny_Constant_bool _ _ _ _ _ _ _ _ _ <| h _ Z.done
theorem s_ell {x y : Str} {t u : Tok} (g : G w T s₀.heap) (room : A.depth < recursionLimit) (hh : A.handled = none) (hx : x.length + 2 ≤ sizeLine) (hy : y.length < 2 ^ 60)
    (hsp : Txt.contains x dots = true → 2 ≤ (Txt.split x dots).length ∧ (Txt.split x dots).length ≤ 2 ^ 20 ∧ ∀ p ∈ Txt.split x dots, p.length < 2 ^ 60)
    (h : ∀ s', Later w T s₀ s' → Q (.bool (ellM x y)) s') : wpAny (model P31 w) A (call (.ref (T.f 0)) [.str x t, .str y u]) Q NoE s₀ := by
  refine call_fn (i := 0) (binds := [("want", .str x t), ("got", .str y u)]) (by decide) g room (by rfl) (by rfl) (by rfl) (fun s₁ Z => ?_) (by rfl) (by rfl) (by rfl)
  unfold ellM at h
  refine @wpAny_execs_cons _ _ _ _ _ _ _ _ <| @wpAny_If _ _ _ _ _ _ _ _ _ _ <| @wpAny_isTrue_Compare1 _ _ _ _ _ _ _ _ _ _ _ ( @ldg _ _ _ _ _ _ _ _ _ _ _ _ Z _ rfl ( @ld _ _ _ _ _ _ _ _ _ _ _ _ Z _ rfl ( @PySem.SB.notContains _ _ _ _ _ _ _ _ _ _ <| @wpAny_truthy_bool _ _ _ _ _ _ ?_) (by rfl) (by rfl) (by decide) (by decide)) (by rfl) (by rfl) (by rfl) (by decide)) (by with_unfolding_all rfl)
  by_cases hc : Txt.contains x dots = true
  · obtain ⟨c1, c2, c3⟩ := hsp hc
    rw [if_pos hc] at h
    rw [if_neg (by rw [hc]; decide)]
    refine @wpAny_execs_nil _ _ _ _ _ _ <| @wpAny_execs_cons _ _ _ _ _ _ _ _ <| @wpAny_Assign_Name _ _ _ _ _ _ _ _ _ _ ( @MethodCall_ _ _ _ _ _ _ _ _ _ _ _ _ ( @ld _ _ _ _ _ _ _ _ _ _ _ _ Z _ rfl ( @PySem.GM.split _ _ _ _ _ _ _ _ <| @c_meth _ _ _ _ _ _ _ _ _ _ _ ( @a_cons _ _ _ _ _ _ _ _ _ ( @ldg _ _ _ _ _ _ _ _ _ _ _ _ Z _ rfl ( @args_nil _ _ _ _ _ _ _ <| @r_split _ _ _ _ _ _ _ _ _ _ _ _ _ _ _ Z (by rfl) hx fun D l s e Z => ?_) (by rfl) (by rfl) (by rfl) (by decide)) (by rfl)) (by rfl) (by rfl)) (by rfl) (by rfl) (by decide) (by decide)) (by rfl)) (by rfl)
    have hll : l.length = (Txt.split x dots).length := by rw [← e, List.length_map]
    refine @stl _ _ _ _ _ _ _ _ _ _ _ Z _ (fun s Z => @wpAny_execs_cons _ _ _ _ _ _ _ _ <| @wpAny_Assert _ _ _ _ _ _ _ _ hh <| @wpAny_isTrue_Compare1 _ _ _ _ _ _ _ _ _ _ _ ( @c_call _ _ _ _ _ _ _ _ _ _ <| @ldb _ _ _ _ _ _ _ _ _ _ _ _ Z _ rfl ( @c_blt _ _ _ _ _ _ _ _ _ _ ( @a_cons _ _ _ _ _ _ _ _ _ ( @ld _ _ _ _ _ _ _ _ _ _ _ _ Z _ rfl ( @args_nil _ _ _ _ _ _ _ <| @r_lenL _ _ _ _ _ _ _ _ _ _ _ _ _ Z (isL_lst.list (Z.getM (.head _))) (by simp [strValues]; (clear room hx hy hsp; lia)) fun t s Z => @wpAny_Constant_int _ _ _ _ _ _ _ _ _ <| @ge_int _ _ _ _ _ _ _ _ _ _ <| @wpAny_truthy_bool _ _ _ _ _ _ ?_) (by rfl) (by rfl) (by decide) (by decide)) (by rfl)) (by rfl) (by rfl)) (by rfl) (by rfl) (by rfl) (by rfl) (by decide)) (by with_unfolding_all rfl)) (by rfl) (by rfl) (by rfl)
    have Z := Z.tok (t := s.toks + 1)
    rw [if_pos (by simp [strValues]; (clear room hx hy hsp; lia))]
    refine @wpAny_execs_cons _ _ _ _ _ _ _ _ <| Assign_Tuple_swapped (names := ["startpos", "endpos"]) <| @Tuple_ _ _ _ _ _ _ _ _ _ <| @a_cons _ _ _ _ _ _ _ _ _ ( eval_lit (i := 0) rfl Z fun t s Z => @a_cons _ _ _ _ _ _ _ _ _ ( @c_call _ _ _ _ _ _ _ _ _ _ <| @ldb _ _ _ _ _ _ _ _ _ _ _ _ Z _ rfl ( @c_blt _ _ _ _ _ _ _ _ _ _ ( @a_cons _ _ _ _ _ _ _ _ _ ( @ld _ _ _ _ _ _ _ _ _ _ _ _ Z _ rfl ( @args_nil _ _ _ _ _ _ _ <| @len_str _ _ _ _ _ _ _ _ (by lia) <| @args_nil _ _ _ _ _ _ _ <| @r_tuple2 _ _ _ _ _ _ _ _ _ _ _ _ _ Z.tok fun d s Z => ?_) (by rfl) (by rfl) (by decide) (by decide)) (by rfl)) (by rfl) (by rfl)) (by rfl) (by rfl) (by rfl) (by rfl) (by decide)) (by rfl)) (by rfl)
    refine @r_unpackItems2 _ _ _ _ _ _ _ _ _ _ _ _ _ _ Z hh (Z.get (.head _)) fun s Z => ?_
    refine @assignInOrder_cons _ _ _ _ _ _ _ _ _ <| @wpAny_bindName _ _ _ _ _ _ _ _ <| @stl _ _ _ _ _ _ _ _ _ _ _ Z _ (fun s Z => @assignInOrder_cons _ _ _ _ _ _ _ _ _ <| @wpAny_bindName _ _ _ _ _ _ _ _ <| @stl _ _ _ _ _ _ _ _ _ _ _ Z _ (fun s Z => @assignInOrder_nil _ _ _ _ _ _ ?_) (by rfl) (by rfl) (by rfl)) (by rfl) (by rfl) (by rfl)
    exact @e_top _ _ _ _ _ _ _ _ _ _ _ _ _ _ _ _ _ Z hh rfl rfl rfl rfl (by (clear room hx hy hsp; lia)) (by (clear room hx hy hsp; lia)) (fun p hp => c3 _ (by rw [← e]; exact List.mem_map_of_mem hp)) (by rw [e]; exact h)
  · rw [if_neg hc] at h
    rw [if_pos (by simpa using hc)]
    exact @wpAny_execs_cons _ _ _ _ _ _ _ _ <| @wpAny_Return_some _ _ _ _ _ _ _ _ <| @wpAny_Compare1 _ _ _ _ _ _ _ _ _ _ ( @ld _ _ _ _ _ _ _ _ _ _ _ _ Z _ rfl ( @ld _ _ _ _ _ _ _ _ _ _ _ _ Z _ rfl ( @eq_str _ _ _ _ _ _ _ _ _ _ <| h _ Z.done) (by rfl) (by rfl) (by decide) (by decide)) (by rfl) (by rfl) (by decide) (by decide)) (by with_unfolding_all rfl)
end
end Mine
namespace Mine
open PySem PySem.W PySem.Calls PyProof.Rows
noncomputable def cellsIn (env : Env) (scope : Scope) : List (Str × Addr) → Prop
  | [] => True
  | (x, c) :: r => (env.cells.lookup x = some c ∧ (relabel scope env).names.lookup x = some .cell) ∧ cellsIn env scope r
theorem cellsIn.get {env : Env} {scope : Scope} : ∀ {cl : List (Str × Addr)} {x : Str} {c : Addr}, cellsIn env scope cl → cl.lookup x = some c → env.cells.lookup x = some c ∧ (relabel scope env).names.lookup x = some .cell
  | (y, d) :: r, x, c, h, e => by
    rw [List.lookup_cons] at e
    cases hb : x == y with
    | true => rw [hb] at e; cases e; rw [eq_of_beq hb]; exact h.1
    | false => rw [hb] at e; exact h.2.get e
noncomputable def mComp (cenv : Env) (m : Str → Option Value) : Str → Option Value := fun z => if cenv.kindOf z = some .local then none else m z
noncomputable def compOk (scope : Scope) (x : Str) : Bool := scope.names.all (fun y => y.2 != .cell) && scope.names.all (fun y => y.2 != .local || scope.names.lookup y.1 == some .local) && scope.names.lookup x == some .local
section
variable {w : World} {T : Tops} {s₀ s : Shared} {env : Env} {m : Str → Option Value} {mus news : List (Addr × Obj)} {A : Around}
theorem St.forget (Z : St w T s₀ env m mus news s) {C : Addr} {o : Obj} {h' : Heap} {t : Tok} (ho : s.heap.get? C = some o) (hd : ∀ vs, o.data ≠ .fields vs) (h0 : s₀.heap.get? C = none) (hL : C ≠ env.locals) (hcell : ∀ x, env.cells.lookup x ≠ some C)
    (hmu : ∀ p ∈ mus, p.1 ≠ C) (hnw : ∀ p ∈ news, p.1 ≠ C) (hs : ∀ b o, b ≠ C → s.heap.get? b = some o → h'.get? b = some o) : St w T s₀ env m mus news { s with heap := h', toks := t } := by
  obtain ⟨g, gr, kp⟩ := Z.write ho h0 (.inr hd) hs
  refine ⟨Z.g₀, g, gr, Z.os, Z.gens, Z.low, ?_, fun x c e => ⟨?_, (Z.cel x c e).2⟩, Z.capart, fun p hp => ?_, Z.md, fun p hp => ?_⟩
  · obtain ⟨ml, ⟨oL, es, ep, hL', r⟩, b⟩ := Z.ns
    exact ⟨ml, ⟨oL, es, ep, kp _ _ (Ne.symm hL) hL', r⟩, b⟩
  · obtain ⟨⟨oc, hoc, hd⟩, _⟩ := Z.cel x c e
    exact ⟨oc, kp _ _ (fun q => hcell x (by rw [e, q])) hoc, hd⟩
  · obtain ⟨a1, r⟩ := Z.mu p hp
    exact ⟨kp _ _ (hmu p hp) a1, r⟩
  · obtain ⟨a1, r⟩ := Z.nw p hp
    exact ⟨kp _ _ (hnw p hp) a1, r⟩
theorem stlK {x : Str} {v : Value} (Z : St w T s₀ env m mus news s) {Q : Unit → Shared → Prop} (h : ∀ s', St w T s₀ env (upd m x v) mus news s' → (∀ b o, b ≠ env.locals → s.heap.get? b = some o → s'.heap.get? b = some o) → Q () s') (hk : env.scope.kind = .function := by rfl) (hl : env.kindOf x = some .local := by rfl)
    (hc : env.cells.lookup x = none := by rfl) : wpAny (model P31 w) A (storeName env x v) Q NoE s := by
  obtain ⟨ml, hns, he⟩ := Z.ns
  refine @wpAny_storeName_local _ _ _ _ _ _ _ _ _ hl hns (fun h' hn hs => h _ ?_ (SameBut.kp hs)) (by rw [hk]; rfl)
  obtain ⟨oL, es, ep, hL, hLd, _⟩ := id hns
  have hlo : s₀.heap.get? env.locals = none := Heap.get?_none_of_le Z.low
  obtain ⟨g, gr, kp⟩ := Z.write hL hlo (.inr fun vs q => by rw [hLd] at q; cases q) (SameBut.kp hs)
  refine ⟨Z.g₀, g, gr, Z.os, Z.gens, Z.low, ⟨_, hn, fun y hy => ?_⟩, fun y c e => ⟨?_, (Z.cel y c e).2⟩, Z.capart, fun p hp => ?_, Z.md, fun p hp => ?_⟩
  · unfold upd
    split
    · rfl
    · exact he y hy
  · obtain ⟨⟨oc, hoc, hd⟩, hne⟩ := Z.cel y c e
    have : y ≠ x := fun q => by rw [q, hc] at e; cases e
    exact ⟨oc, kp _ _ hne hoc, by rw [hd]; unfold upd; rw [if_neg this]⟩
  · obtain ⟨a1, a2, a3, r⟩ := Z.mu p hp
    exact ⟨kp _ _ a3 a1, a2, a3, r⟩
  · obtain ⟨a1, a2, a3, r⟩ := Z.nw p hp
    exact ⟨kp _ _ a3 a1, a2, a3, r⟩
theorem St.enterC (Z : St w T s₀ env m mus news s) {scope : Scope} {cl : List (Str × Addr)} {oI : Obj} {h₁ : Heap} {t : Tok} {X : Obj} (hI : OkMu oI) (hf : oI.isFreed = false)
    (hns : h₁.Ns ((s.heap.push oI).push (lstO #[] 0)).objs.size (fun _ => none)) (hsb : Heap.SameBut ((s.heap.push oI).push (lstO #[] 0)).objs.size (((s.heap.push oI).push (lstO #[] 0)).push X) h₁) (hcl : cellsIn env scope cl) :
    St w T s (compEnvC scope cl ((s.heap.push oI).push (lstO #[] 0)).objs.size env) (mComp (compEnvC scope cl ((s.heap.push oI).push (lstO #[] 0)).objs.size env) m) [(s.heap.objs.size, oI), ((s.heap.push oI).objs.size, lstO #[] 0)] [] { s with heap := h₁, toks := t } := by
  have sz1 : (s.heap.push oI).objs.size = s.heap.objs.size + 1 := Heap.size_push ..
  have sz2 : ((s.heap.push oI).push (lstO #[] 0)).objs.size = s.heap.objs.size + 1 + 1 := by rw [Heap.size_push, sz1]
  have k2 : ∀ b o, ((s.heap.push oI).push (lstO #[] 0)).get? b = some o → h₁.get? b = some o := fun b o e =>
    hsb.extBut b o (Nat.ne_of_lt (Heap.lt_size e)) (Heap.get?_push_of_some _ e)
  have k0 : ∀ b o, s.heap.get? b = some o → h₁.get? b = some o := fun b o e => k2 b o (Heap.get?_push_of_some _ (Heap.get?_push_of_some _ e))
  have gI : h₁.get? s.heap.objs.size = some oI := k2 _ _ (Heap.get?_push_of_some _ (Heap.get?_push_size _ hf))
  have gD : h₁.get? (s.heap.push oI).objs.size = some (lstO #[] 0) := k2 _ _ (Heap.get?_push_size _ rfl)
  have nocell : ∀ x b, s.heap.objs.size ≤ b → cl.lookup x ≠ some b := fun x b hb e => by
    obtain ⟨⟨o, ho, _⟩, _⟩ := Z.cel x b (hcl.get e).1
    exact absurd (Heap.lt_size ho) (Nat.not_lt.mpr hb)
  refine ⟨Z.g, Z.g.keeps k0, .of_keep k0, rfl, rfl, by show _ ≤ ((s.heap.push oI).push (lstO #[] 0)).objs.size; lia, ⟨_, hns, fun x hx => ?_⟩, fun x c e => ?_, fun x y c e1 e2 => Z.capart x y c (hcl.get e1).1 (hcl.get e2).1, fun p hp => ?_, ?_, fun _ hp => nomatch hp⟩
  · unfold mComp; rw [if_pos hx]
  · obtain ⟨⟨o, ho, hd⟩, _⟩ := Z.cel x c (hcl.get e).1
    refine ⟨⟨o, k0 _ _ ho, ?_⟩, ?_⟩
    · unfold mComp
      have hnl : ¬ (compEnvC scope cl ((s.heap.push oI).push (lstO #[] 0)).objs.size env).kindOf x = some .local := by
        show ¬ (relabel scope env).names.lookup x = some .local
        rw [(hcl.get e).2]; decide
      rw [hd, if_neg hnl]
    · have hlt : c < s.heap.objs.size := Heap.lt_size ho
      exact Nat.ne_of_lt (show c < ((s.heap.push oI).push (lstO #[] 0)).objs.size by rw [sz2]; exact Nat.lt_succ_of_lt (Nat.lt_succ_of_lt hlt))
  · simp only [List.mem_cons, List.not_mem_nil, or_false] at hp
    rcases hp with rfl | rfl
    · refine ⟨gI, hI, ?_, Heap.get?_none_of_le (Nat.le_refl _), fun x => nocell x _ (Nat.le_refl _)⟩
      show s.heap.objs.size ≠ ((s.heap.push oI).push (lstO #[] 0)).objs.size
      lia
    · refine ⟨gD, isL_lst.mu, ?_, Heap.get?_none_of_le (by show s.heap.objs.size ≤ (s.heap.push oI).objs.size; lia), fun x => nocell x _ (by show s.heap.objs.size ≤ (s.heap.push oI).objs.size; omega)⟩
      show (s.heap.push oI).objs.size ≠ ((s.heap.push oI).push (lstO #[] 0)).objs.size
      lia
  · refine List.pairwise_cons.mpr ⟨fun q hq => ?_, List.pairwise_singleton ..⟩
    rw [List.mem_singleton.mp hq]
    show s.heap.objs.size ≠ (s.heap.push oI).objs.size
    lia
/-- the loop of a comprehension -/
theorem comp_loop {R : Result → Shared → Prop} {elt iter : Expr} {x : Str} {px pos : Pos} {ifs : List Expr} {scope : Scope} {I D : Addr} {oI : Obj} {fp : List Addr} {n : Nat} {P : Nat → Value → Prop} {S : Nat → Heap → Prop} (W : Walks P31 w A I fp [I] n P S)
    (hok : ∀ i h, S i h → ∃ o, h.get? I = some o ∧ OkMu o) (K : Nat → List Value → List (Addr × Obj) → Prop)
    (hfp : ∀ b ∈ fp, b = I ∨ ∃ o, ∀ m mus news s, St w T s₀ env m mus news s → s.heap.get? b = some o) (hn : n ≤ 2 ^ 20)
    (Z : St w T s₀ env m [(I, oI), (D, lstO #[] 0)] [] s) (hS : S 0 s.heap) (hK : K 0 [] [])
    (turn : ∀ i ys news oI nn v s, i < n → K i ys news → P i v → St w T s₀ env (upd m x v) [(I, oI), (D, lstO ys.toArray nn)] news s →
      wpAny (model P31 w) A (forIn ifs true fun c r => if r = true then do let ok ← isTrue c env (eval c env); pure (ForInStep.yield ok) else pure (ForInStep.yield r)) (fun ok s =>
        if ok = true then wpAny (model P31 w) A (eval elt env) (fun y s => ∃ news', St w T s₀ env (upd m x v) [(I, oI), (D, lstO ys.toArray nn)] news' s ∧ K (i + 1) (ys ++ [y]) news') NoE s
        else ∃ news', St w T s₀ env (upd m x v) [(I, oI), (D, lstO ys.toArray nn)] news' s ∧ K (i + 1) ys news') NoE s)
    (fin : ∀ m ys nn news s, K n ys news → St w T s₀ env m [(D, lstO ys.toArray nn)] news s → R (.ok .next) s)
    (hk : env.scope.kind = .function) (hl : env.kindOf x = some .local) (hc : env.cells.lookup x = none) :
    codeAny (model P31 w) A (.compLoop (.ListComp elt [⟨.Name x px, iter, ifs, 0⟩] scope pos) 0 (.ref I) (.ref D) env) R s := by
  refine codeAny_compLoop_tests (fun j s => ∃ i m' ys nn news oI, j = n - i ∧ i ≤ n ∧ ys.length ≤ i ∧ (∀ v, upd m' x v = upd m x v) ∧ St w T s₀ env m' [(I, oI), (D, lstO ys.toArray nn)] news s ∧ S i s.heap ∧ K i ys news) (fun j s hI => ?_) n
    ⟨0, m, [], 0, [], oI, rfl, Nat.zero_le _, Nat.le_refl _, fun _ => rfl, Z, hS, hK⟩
  refine @goal_hide _ fun G hG => ?_
  obtain ⟨i, m', ys, nn, news, oI, rfl, hi, hys, hm, Z, hS, hK⟩ := hI
  rcases Nat.lt_or_eq_of_le hi with hlt | rfl
  · refine hG ?_
    clear hG
    refine W.item i s _ _ hlt hS fun v h' tk hP hS' hkp => ?_
    obtain ⟨o', ho', hok'⟩ := hok _ _ hS'
    have Z' := Z.turn (t := tk) (fun b o hb e => hkp b o (by simpa using hb) e) ho' hok'
    refine @wpAny_mono _ _ _ _ _ _ _ _ _ (@wpAny_assign_Name _ _ _ _ _ _ _ _ _ <| stl (v := v) (Q := fun _ s₂ => St w T s₀ env (upd m x v) [(I, o'), (D, lstO ys.toArray nn)] news s₂) Z' (fun s Z => hm v ▸ Z) hk hl hc) (fun _ s₂ Z => ?_) fun _ _ h => h.elim
    have key : ∀ {m' m'' mus' mus'' news' news'' s₁ s₂}, S (i + 1) s₁.heap → St w T s₀ env m' ((I, o') :: mus') news' s₁ → St w T s₀ env m'' ((I, o') :: mus'') news'' s₂ → S (i + 1) s₂.heap := fun {m' m'' mus' mus'' news' news'' s₁ s₂} hS1 Z1 Z2 => by
      refine W.frame _ _ _ hS1 fun b hb o e => ?_
      rcases hfp b hb with rfl | ⟨o1, q⟩
      · rw [Z1.getM (.head _)] at e
        obtain rfl := Option.some.inj e
        exact Z2.getM (.head _)
      · rw [q _ _ _ _ Z1] at e
        obtain rfl := Option.some.inj e
        exact q _ _ _ _ Z2
    refine @wpAny_mono _ _ _ _ _ _ _ _ _ (turn i ys news o' nn v s₂ hlt hK hP Z) (fun ok s₃ h => ?_) fun _ _ h => h.elim
    cases ok with
    | false =>
      obtain ⟨news', Z3, hK3⟩ := h
      exact ⟨_, by omega, i + 1, _, ys, nn, news', o', rfl, hlt, by lia, fun _ => upd_over, Z3, key hS' Z' Z3, hK3⟩
    | true =>
      refine @wpAny_mono _ _ _ _ _ _ _ _ _ h (fun y s₄ h => ?_) fun _ _ h => h.elim
      obtain ⟨news', Z4, hK4⟩ := h
      have hS4 := key hS' Z' Z4
      refine @wpAny_mono _ _ _ _ _ _ _ _ _ (r_append (E := NoE) (v := y) (Q := fun _ s => ∃ nn, St w T s₀ env (upd m x v) [(D, lstO (ys.toArray.push y) nn), (I, o')] news' s) Z4.swapM (by simp; lia) fun nn s Z => ⟨nn, Z⟩) (fun _ s₅ h => ?_) fun _ _ h => h.elim
      obtain ⟨nn', Z5⟩ := h
      have e : ys.toArray.push y = (ys ++ [y]).toArray := by simp
      rw [e] at Z5
      exact ⟨_, by omega, i + 1, _, ys ++ [y], nn', news', o', rfl, hlt, by simp; lia, fun _ => upd_over, Z5.swapM, key hS4 Z4 Z5.swapM, hK4⟩
  · refine hG ?_
    refine W.done s _ _ hS fun h' tk hkp => ?_
    exact fin _ _ _ _ _ hK (Z.lose (t := tk) fun b o hb e => hkp b o (by simpa using hb) e)
noncomputable abbrev CompAt (w : World) (A : Around) (env : Env) (elt iter : Expr) (x : Str) (px pos : Pos) (ifs : List Expr) (scope : Scope) (cl : List (Str × Addr)) (use : Option (Value → Sem Unit)) (Q : Value → Shared → Prop) (xv : Value) (s : Shared) : Prop :=
  wpAny (model P31 w) A (pyIter xv) (fun it s₂ => wpAny (model P31 w) A (newList []) (fun acc s₃ => wpAny (model P31 w) A (newFunctionEnv scope env.globals cl [] env.qual none .none (some env)) (fun cenv s₄ =>
    codeAny (model P31 w) A (.compStart (.ListComp elt [⟨.Name x px, iter, ifs, 0⟩] scope pos) 0 it acc { cenv with scope := relabel scope env }) (compPost (model P31 w) A NoE use Q acc cenv.locals) s₄) NoE s₃) NoE s₂) NoE s
theorem compOk.cell {scope : Scope} {x : Str} (h : compOk scope x = true) : (∀ y ∈ scope.names, y.2 ≠ .cell) ∧ (∀ y ∈ scope.names, y.2 = .local → scope.names.lookup y.1 = some .local) ∧ scope.names.lookup x = some .local := by
  unfold compOk at h
  simp only [Bool.and_eq_true, List.all_eq_true, Bool.or_eq_true, beq_iff_eq, bne_iff_ne] at h
  refine ⟨fun y hy => h.1.1 y hy, fun y hy e => ?_, h.2⟩
  rcases h.1.2 y hy with q | q
  · exact absurd e q
  · exact q
theorem Comp_ {Q : Value → Shared → Prop} {elt iter : Expr} {x : Str} {px pos : Pos} {ifs : List Expr} {scope : Scope} {cl : List (Str × Addr)}
    (h : wpAny (model P31 w) A (eval iter env) (fun xv s => CompAt w A env elt iter x px pos ifs scope cl none Q xv s) NoE s)
    (hclos : closureFor scope env = pure cl := by rfl) (hsc : compOk scope x = true := by rfl) (hkd : scope.kind = .function := by rfl)
    (hs : ∀ x, foldedSetIterable iter env x = pure x := by intro _; rfl) : wpAny (model P31 w) A (eval (.ListComp elt [⟨.Name x px, iter, ifs, 0⟩] scope pos) env) Q NoE s := by
  rw [eval_ListComp]
  exact wpAny_comprehension_free (use := none) rfl hs hclos hkd (compOk.cell hsc).2.1 h
theorem Assign_Comp {Q : Flow → Shared → Prop} {elt iter : Expr} {x y : Str} {px py pos spos : Pos} {ifs : List Expr} {scope : Scope} {cl : List (Str × Addr)}
    (h : wpAny (model P31 w) A (eval iter env) (fun xv s => CompAt w A env elt iter x px pos ifs scope cl (some (assign (.Name y py) env)) (fun _ s' => Q .next s') xv s) NoE s)
    (hsw : swapsWith (.ListComp elt [⟨.Name x px, iter, ifs, 0⟩] scope pos) (some (.Name y py)) spos.line env = pure true := by rfl)
    (hclos : closureFor scope env = pure cl := by rfl) (hsc : compOk scope x = true := by rfl) (hkd : scope.kind = .function := by rfl)
    (hs : ∀ x, foldedSetIterable iter env x = pure x := by intro _; rfl) : wpAny (model P31 w) A (exec (.Assign [.Name y py] (.ListComp elt [⟨.Name x px, iter, ifs, 0⟩] scope pos) spos) env) Q NoE s := by
  rw [exec_Assign_Name_used _ _ _ _ hsw]
  refine @wpAny_bind _ _ _ _ _ _ _ _ _ (@wpAny_standAt _ _ _ _ _ _ (@wpAny_bind _ _ _ _ _ _ _ _ _ ?_))
  show wpAny _ A (do let _ ← comprehension (.ListComp elt [⟨.Name x px, iter, ifs, 0⟩] scope pos) scope env _ (newList []) false (eval iter env) (some (assign (.Name y py) env))) _ _ s
  refine @wpAny_bind _ _ _ _ _ _ _ _ _ (@wpAny_mono _ _ _ _ _ _ _ _ _ (wpAny_comprehension_free (use := some (assign (.Name y py) env)) (Q := fun _ s' => Q .next s') rfl hs hclos hkd (compOk.cell hsc).2.1 h) (fun _ s' hq => @wpAny_pure _ _ _ _ _ _ _ (@wpAny_pure _ _ _ _ _ _ _ hq)) fun _ _ e => e)
section
variable {elt iter : Expr} {x : Str} {px pos : Pos} {ifs : List Expr} {scope : Scope} {cl : List (Str × Addr)} {oI : Obj} {fp : List Addr} {n : Nat} {P : Nat → Value → Prop} {S : Nat → Heap → Prop} {xv : Value} {Q : Value → Shared → Prop} {use : Option (Value → Sem Unit)}
/-- a comprehension over anything that walks -/
theorem comp_go (Z : St w T s₀ env m mus news s) (hI : OkMu oI) (hf : oI.isFreed = false)
    (hpi : ∀ Q' : Value → Shared → Prop, Q' (.ref s.heap.objs.size) { s with heap := s.heap.push oI } → wpAny (model P31 w) A (pyIter xv) Q' NoE s)
    (W : Walks P31 w A s.heap.objs.size fp [s.heap.objs.size] n P S) (hok : ∀ i h, S i h → ∃ o, h.get? s.heap.objs.size = some o ∧ OkMu o)
    (hfp : ∀ b ∈ fp, b = s.heap.objs.size ∨ ∃ o, s.heap.get? b = some o ∧ o.cls ≠ .none) (hS : S 0 (s.heap.push oI)) (hn : n ≤ 2 ^ 20)
    (K : Nat → List Value → List (Addr × Obj) → Prop) (hK : K 0 [] [])
    (turn : ∀ C D i ys newsI oI nn v s', i < n → K i ys newsI → P i v → St w T s (compEnvC scope cl C env) (upd (mComp (compEnvC scope cl C env) m) x v) [(s.heap.objs.size, oI), (D, lstO ys.toArray nn)] newsI s' →
      wpAny (model P31 w) A (forIn ifs true fun c r => if r = true then do let ok ← isTrue c (compEnvC scope cl C env) (eval c (compEnvC scope cl C env)); pure (ForInStep.yield ok) else pure (ForInStep.yield r)) (fun ok s' =>
        if ok = true then wpAny (model P31 w) A (eval elt (compEnvC scope cl C env)) (fun y s' => ∃ news', St w T s (compEnvC scope cl C env) (upd (mComp (compEnvC scope cl C env) m) x v) [(s.heap.objs.size, oI), (D, lstO ys.toArray nn)] news' s' ∧ K (i + 1) (ys ++ [y]) news') NoE s'
        else ∃ news', St w T s (compEnvC scope cl C env) (upd (mComp (compEnvC scope cl C env) m) x v) [(s.heap.objs.size, oI), (D, lstO ys.toArray nn)] news' s' ∧ K (i + 1) ys news') NoE s')
    (fin : ∀ C D ys nn newsI s' mc, K n ys newsI → St w T s (compEnvC scope cl C env) mc [(D, lstO ys.toArray nn)] newsI s' → compPost (model P31 w) A NoE use Q (.ref D) C (.ok .next) s')
    (hsc : compOk scope x = true) (hkd : scope.kind = .function) (hcl : cellsIn env scope cl) (hclx : cl.lookup x = none) :
    CompAt w A env elt iter x px pos ifs scope cl use Q xv s := by
  refine hpi _ ?_
  refine @wpAny_newObj_type _ _ _ _ _ _ _ _ ((@wpAny_newFunctionEnv _ _ _ _ _ _ _ _ _ _ _ _ _ _ (compOk.cell hsc).1 (by intro y hy; simp at hy) (fun h₁ hns hsb => ?_) hkd)) (by size_fits)
  have Zc := Z.enterC (scope := scope) (cl := cl) (t := s.toks + ([] : List (Str × Value)).length) hI hf hns hsb hcl
  have hS1 : S 0 h₁ := W.frame _ _ _ hS fun b hb o e => by
    refine hsb.extBut b o (Nat.ne_of_lt (Heap.lt_size (Heap.get?_push_of_some _ e))) (Heap.get?_push_of_some _ (Heap.get?_push_of_some _ e))
  have loop := comp_loop (px := px) (pos := pos) (iter := iter) (scope := scope) (R := compPost (model P31 w) A NoE use Q (.ref (s.heap.push oI).objs.size) ((s.heap.push oI).push (lstO #[] 0)).objs.size) W hok K (fun b hb => by
      rcases hfp b hb with rfl | ⟨o, ho, hc⟩
      · exact .inl rfl
      · exact .inr ⟨o, fun m mus news s' Z => Z.gr.keep ho hc⟩) hn Zc hS1 hK (fun i ys news oI nn v s' => turn _ _ i ys news oI nn v s') (fun m ys nn news s' hK Z => fin _ _ ys nn news s' m hK Z) hkd (lookup_relabel_local (compOk.cell hsc).2.2) hclx
  exact codeAny_compStart_list loop (W.self 0 _ _ _ hS1 loop)
theorem comp_end (Z : St w T s₀ env m mus news s) {C D : Addr} {ys : List Value} {nn : Nat} {newsI : List (Addr × Obj)} {s' : Shared} {mc : Str → Option Value} (Zc : St w T s (compEnvC scope cl C env) mc [(D, lstO ys.toArray nn)] newsI s')
    (h : ∀ s', St w T s₀ env m mus ((D, lstO ys.toArray nn) :: (newsI ++ news)) s' → Q (.ref D) s') : compPost (model P31 w) A NoE none Q (.ref D) C (.ok .next) s' := by
  obtain ⟨ml, hC, _⟩ := Zc.ns
  have Zf := Zc.freeze
  have Y := Z.join Zf.done (tl := (D, lstO ys.toArray nn) :: newsI) fun p hp => ⟨(Zf.nw p hp).1, (Zf.nw p hp).2.1, (Zf.nw p hp).2.2.2.1⟩
  obtain ⟨oC, es, ep, hoC, hd, _⟩ := id hC
  have h0 : s.heap.get? C = none := Heap.get?_none_of_le Zc.low
  obtain ⟨f1, f2, f3, f4, f5⟩ := Z.fresh h0
  refine ⟨ml, hC, fun h' hs' => h _ (Y.forget (t := s'.toks) hoC (fun vs q => by rw [hd] at q; cases q) f2 f1 f3 (fun p hp => Ne.symm (f4 p hp)) (fun p hp => ?_) (SameBut.kp hs'))⟩
  rcases List.mem_append.mp hp with hp | hp
  · exact (Zf.nw p hp).2.2.1
  · exact Ne.symm (f5 p hp)
theorem comp_endA {y : Str} {py : Pos} (Z : St w T s₀ env m mus news s) {C D : Addr} {ys : List Value} {nn : Nat} {newsI : List (Addr × Obj)} {s' : Shared} {mc : Str → Option Value} (Zc : St w T s (compEnvC scope cl C env) mc [(D, lstO ys.toArray nn)] newsI s')
    (h : ∀ s', St w T s₀ env (upd m y (.ref D)) mus ((D, lstO ys.toArray nn) :: (newsI ++ news)) s' → Q .none s') (hk : env.scope.kind = .function := by rfl) (hl : env.kindOf y = some .local := by rfl) (hc : env.cells.lookup y = none := by rfl) :
    compPost (model P31 w) A NoE (some (assign (.Name y py) env)) Q (.ref D) C (.ok .next) s' := by
  obtain ⟨ml, hC, _⟩ := Zc.ns
  have Zf := Zc.freeze
  have Y := Z.join Zf.done (tl := (D, lstO ys.toArray nn) :: newsI) fun p hp => ⟨(Zf.nw p hp).1, (Zf.nw p hp).2.1, (Zf.nw p hp).2.2.2.1⟩
  obtain ⟨oC, es, ep, hoC, hd, hr⟩ := id hC
  have h0 : s.heap.get? C = none := Heap.get?_none_of_le Zc.low
  obtain ⟨f1, f2, f3, f4, f5⟩ := Z.fresh h0
  refine @wpAny_assign_Name _ _ _ _ _ _ _ _ _ <| @stlK _ _ _ _ _ _ _ _ _ _ _ Y _ (fun s2 Y kp => ?_) hk hl hc
  have hoC2 := kp _ _ f1 hoC
  refine ⟨ml, ⟨oC, es, ep, hoC2, hd, hr⟩, fun h' hs' => h _ (Y.forget (t := s2.toks) hoC2 (fun vs q => by rw [hd] at q; cases q) f2 f1 f3 (fun p hp => Ne.symm (f4 p hp)) (fun p hp => ?_) (SameBut.kp hs'))⟩
  rcases List.mem_append.mp hp with hp | hp
  · exact (Zf.nw p hp).2.2.1
  · exact Ne.symm (f5 p hp)
end
end
end Mine
namespace Mine
open PySem PySem.W PySem.Calls PyProof.Rows
noncomputable abbrev rangeO (a b : Nat) (t u v : Tok) : Obj := { cls := .type "range", data := .fields #[.int (a : Int) t, .int (b : Int) u, .int 1 v] }
noncomputable abbrev rangeItO (a n : Int) : Obj := { cls := .type "range_iterator", data := .fields #[rawInt a, rawInt n, rawInt 1] }
theorem ints_mu {T : String} {a i c : Int} {t u v : Tok} (h : (Value.type T ≠ .type "code") := by decide) : OkMu { cls := .type T, data := .fields #[.int a t, .int i u, .int c v] } := ⟨nofun, h, fun ⟨vs, q, t, e, e'⟩ => by
  cases e; simp at e'⟩
theorem rit_ok {h : Heap} {I : Addr} {a n : Int} (e : IsRangeIter h I a n 1) : ∃ o, h.get? I = some o ∧ OkMu o := ⟨_, e, ints_mu⟩
theorem sit_ok {h : Heap} {I : Addr} {T : String} {x : Str} {t : Tok} {i : Nat} (hT : Value.type T ≠ .type "code") (e : h.IsStrIter I T x t i) : ∃ o, h.get? I = some o ∧ OkMu o :=
  let ⟨o, ho, hc, hd⟩ := e; ⟨o, ho, by rw [hc]; nofun, by rw [hc]; exact hT, fun ⟨vs, q, t, e, e'⟩ => by rw [hd] at e; cases e; simp at e'⟩
section
variable {w : World} {T : Tops} {s₀ s : Shared} {env : Env} {m : Str → Option Value} {mus news : List (Addr × Obj)} {A : Around}
theorem rs_nat (a b : Nat) : Builtin.Range.rangeSize (a : Int) b 1 = ((b - a : Nat) : Int) := by
  rw [rangeSize_one]; split <;> lia
theorem r_range1 {E : Value → Shared → Prop} {Q : Value → Shared → Prop} {b : Nat} {u : Tok} (Z : St w T s₀ env m mus news s)
    (h : ∀ R t v s, St w T s₀ env m mus ((R, rangeO 0 b t u v) :: news) s → Q (.ref R) s) : wpAny (model P31 w) A (call (.type "range") [.int (b : Int) u]) Q E s :=
  @call_range_1 _ _ _ _ _ _ _ _ <| h _ _ _ _ <| Z.join1 (.of_keep Z.g (push_keep s _)) ⟨Heap.get?_push_size _ rfl, nofun, fresh_size⟩
theorem r_range2 {E : Value → Shared → Prop} {Q : Value → Shared → Prop} {a b : Nat} {t u : Tok} (Z : St w T s₀ env m mus news s)
    (h : ∀ R v s, St w T s₀ env m mus ((R, rangeO a b t u v) :: news) s → Q (.ref R) s) : wpAny (model P31 w) A (call (.type "range") [.int (a : Int) t, .int (b : Int) u]) Q E s :=
  @call_range_2 _ _ _ _ _ _ _ _ _ _ <| h _ _ _ <| Z.join1 (.of_keep Z.g (push_keep s _)) ⟨Heap.get?_push_size _ rfl, nofun, fresh_size⟩
theorem pyIter_rangeO {E : Value → Shared → Prop} {Q : Value → Shared → Prop} {R : Addr} {a b : Nat} {t u v : Tok} (hR : s.heap.get? R = some (rangeO a b t u v)) (ha : a < 2 ^ 60) (hb : b < 2 ^ 60)
    (h : Q (.ref s.heap.objs.size) { s with heap := s.heap.push (rangeItO (a : Int) ((b - a : Nat) : Int)) }) : wpAny (model P31 w) A (pyIter (.ref R)) Q E s :=
  @wpAny_pyIter_range _ _ _ _ _ _ _ _ _ _ _ _ _ hR (small_one (by lia) (by omega) (by lia) (by lia)) (by rw [rs_nat]; exact h)
theorem rit_start {h : Heap} {a b : Nat} : IsRangeIter (h.push (rangeItO (a : Int) ((b - a : Nat) : Int))) h.objs.size ((a : Int) + ((0 : Nat) : Int) * 1) (((b - a : Nat) : Int) - ((0 : Nat) : Int)) 1 := by
  have e1 : (a : Int) + ((0 : Nat) : Int) * 1 = a := by lia
  have e2 : (((b - a : Nat) : Int) - ((0 : Nat) : Int)) = ((b - a : Nat) : Int) := by lia
  rw [e1, e2]; exact Heap.get?_push_size _ rfl
/-- for x in range(a, b) -/
theorem r_iterRange {Q : Flow → Shared → Prop} {target : Expr} {body : List Stmt} {R : Addr} {a b : Nat} {t u v : Tok} (Z : St w T s₀ env m mus news s) (hh : A.handled = none) (hR : s.heap.get? R = some (rangeO a b t u v)) (ha : a < 2 ^ 60) (hb : b < 2 ^ 60)
    (K : Nat → (Str → Option Value) → List (Addr × Obj) → List (Addr × Obj) → Prop) (hK : K 0 m mus news)
    (turn : ∀ I i m mus news oI t s, i < b - a → K i m mus news → St w T s₀ env m ((I, oI) :: mus) news s →
      wpAny (model P31 w) A (assign target env (.int ((a + i : Nat) : Int) t)) (fun _ s => wpAny (model P31 w) A (execs body env) (fun f s => match f with
          | .next | .cont => ∃ m' mus' news', St w T s₀ env m' ((I, oI) :: mus') news' s ∧ K (i + 1) m' mus' news'
          | .brk => Q .next s
          | .ret v => Q (.ret v) s) NoE s) NoE s)
    (fin : ∀ m mus news s, K (b - a) m mus news → St w T s₀ env m mus news s → Q .next s) (ht : ∀ I v, letOwnedTupleGo target (.ref I) v = pure () := by intro _ _; rfl) :
    wpAny (model P31 w) A (pyIter (.ref R)) (fun it s => codeAny (model P31 w) A (.forLoop target it body [] env) (fun r s' => match r with | .ok f => Q f s' | .error e => cameBackBy (model P31 w) A env NoE e s') s) NoE s := by
  refine @pyIter_rangeO _ _ _ _ _ _ _ _ _ _ _ hR ha hb ?_
  have Z' := Z.pushM (rangeItO (a : Int) ((b - a : Nat) : Int)) ints_mu (t := s.toks)
  refine r_forW (Walks.range hh s.heap.objs.size (a : Int) 1 (b - a)) (fun i h e => rit_ok e) K (fun b hb => .inl (by simpa using hb)) Z' rit_start hK (fun i m mus news oI v s h1 h2 h3 h4 => ?_) fin (ht _)
  obtain ⟨t, rfl⟩ := h3
  have := turn _ i m mus news oI t s h1 h2 h4
  rw [show ((a + i : Nat) : Int) = (a : Int) + (i : Int) * 1 by lia] at this
  exact this
section
variable {elt iter : Expr} {x : Str} {px pos : Pos} {ifs : List Expr} {scope : Scope} {cl : List (Str × Addr)} {Q : Value → Shared → Prop} {use : Option (Value → Sem Unit)}
noncomputable abbrev CTurn (w : World) (T : Tops) (A : Around) (env : Env) (elt : Expr) (x : Str) (ifs : List Expr) (scope : Scope) (cl : List (Str × Addr)) (m : Str → Option Value) (s : Shared) (K : Nat → List Value → List (Addr × Obj) → Prop) (C D : Addr) (i : Nat) (ys : List Value) (newsI : List (Addr × Obj)) (oI : Obj) (nn : Nat) (v : Value) (s' : Shared) : Prop :=
  St w T s (compEnvC scope cl C env) (upd (mComp (compEnvC scope cl C env) m) x v) [(s.heap.objs.size, oI), (D, lstO ys.toArray nn)] newsI s' →
      wpAny (model P31 w) A (forIn ifs true fun c r => if r = true then do let ok ← isTrue c (compEnvC scope cl C env) (eval c (compEnvC scope cl C env)); pure (ForInStep.yield ok) else pure (ForInStep.yield r)) (fun ok s' =>
        if ok = true then wpAny (model P31 w) A (eval elt (compEnvC scope cl C env)) (fun y s' => ∃ news', St w T s (compEnvC scope cl C env) (upd (mComp (compEnvC scope cl C env) m) x v) [(s.heap.objs.size, oI), (D, lstO ys.toArray nn)] news' s' ∧ K (i + 1) (ys ++ [y]) news') NoE s'
        else ∃ news', St w T s (compEnvC scope cl C env) (upd (mComp (compEnvC scope cl C env) m) x v) [(s.heap.objs.size, oI), (D, lstO ys.toArray nn)] news' s' ∧ K (i + 1) ys news') NoE s'
noncomputable abbrev CFin (w : World) (T : Tops) (A : Around) (env : Env) (scope : Scope) (cl : List (Str × Addr)) (s : Shared) (K : Nat → List Value → List (Addr × Obj) → Prop) (use : Option (Value → Sem Unit)) (Q : Value → Shared → Prop) (n : Nat) : Prop :=
  ∀ C D ys nn newsI s' mc, K n ys newsI → St w T s (compEnvC scope cl C env) mc [(D, lstO ys.toArray nn)] newsI s' → compPost (model P31 w) A NoE use Q (.ref D) C (.ok .next) s'
theorem comp_list {l : Addr} {lo : Obj} {xs : Array Value} (Z : St w T s₀ env m mus news s) (hh : A.handled = none) (hl : s.heap.get? l = some lo) (hlo : IsL lo xs) (hn : xs.size ≤ 2 ^ 20)
    (K : Nat → List Value → List (Addr × Obj) → Prop) (hK : K 0 [] [])
    (turn : ∀ C D i ys newsI oI nn v s', i < xs.size → K i ys newsI → xs[i]? = some v → CTurn w T A env elt x ifs scope cl m s K C D i ys newsI oI nn v s')
    (fin : CFin w T A env scope cl s K use Q xs.size)
    (hcl : cellsIn env scope cl) (hsc : compOk scope x = true := by rfl) (hkd : scope.kind = .function := by rfl) (hclx : cl.lookup x = none := by rfl) :
    CompAt w A env elt iter x px pos ifs scope cl use Q (.ref l) s := by
  have hne : l ≠ s.heap.objs.size := Nat.ne_of_lt (Heap.lt_size hl)
  exact comp_go (oI := { cls := .type "list_iterator", data := .fields #[.ref l, .int 0 0] }) Z iter_mu rfl (fun Q' h => @wpAny_pyIter_list _ _ _ _ _ _ _ _ (hlo.list hl) h) (Walks.list hh s.heap.objs.size l hne xs) (fun i h ⟨⟨o, e, c, d⟩, _⟩ => ⟨o, e, fields_mu (r := []) c d⟩) (fun b hb => by
      simp only [List.mem_cons, List.not_mem_nil, or_false] at hb
      rcases hb with rfl | rfl
      · exact .inl rfl
      · exact .inr ⟨lo, hl, hlo.cls⟩) ⟨⟨_, Heap.get?_push_size _ rfl, rfl, rfl⟩, (hlo.list hl).push _⟩ hn K hK turn fin hsc hkd hcl hclx
theorem comp_range {R : Addr} {a b : Nat} {t u v : Tok} (Z : St w T s₀ env m mus news s) (hh : A.handled = none) (hR : s.heap.get? R = some (rangeO a b t u v)) (ha : a < 2 ^ 60) (hb : b < 2 ^ 20)
    (K : Nat → List Value → List (Addr × Obj) → Prop) (hK : K 0 [] [])
    (turn : ∀ C D i ys newsI oI nn t s', i < b - a → K i ys newsI → CTurn w T A env elt x ifs scope cl m s K C D i ys newsI oI nn (.int ((a + i : Nat) : Int) t) s')
    (fin : CFin w T A env scope cl s K use Q (b - a))
    (hcl : cellsIn env scope cl) (hsc : compOk scope x = true := by rfl) (hkd : scope.kind = .function := by rfl) (hclx : cl.lookup x = none := by rfl) :
    CompAt w A env elt iter x px pos ifs scope cl use Q (.ref R) s := by
  refine comp_go (oI := rangeItO (a : Int) ((b - a : Nat) : Int)) Z ints_mu rfl (fun Q' h => @pyIter_rangeO _ _ _ _ _ _ _ _ _ _ _ hR ha (by lia) h) (Walks.range hh s.heap.objs.size (a : Int) 1 (b - a)) (fun i h e => rit_ok e) (fun b hb => .inl (by simpa using hb)) rit_start (by lia) K hK (fun C D i ys newsI oI nn v s' h1 h2 h3 => ?_) fin hsc hkd hcl hclx
  obtain ⟨t, rfl⟩ := h3
  have := turn C D i ys newsI oI nn t s' h1 h2
  rw [show ((a + i : Nat) : Int) = (a : Int) + (i : Int) * 1 by omega] at this
  exact this
theorem comp_str {y : Str} {t : Tok} (Z : St w T s₀ env m mus news s) (hh : A.handled = none) (hn : y.cps.size ≤ 2 ^ 20)
    (K : Nat → List Value → List (Addr × Obj) → Prop) (hK : K 0 [] [])
    (turn : ∀ C D i ys newsI oI nn c t s', i < y.cps.size → K i ys newsI → y.cps[i]? = some c → CTurn w T A env elt x ifs scope cl m s K C D i ys newsI oI nn (.str ⟨#[c]⟩ t) s')
    (fin : CFin w T A env scope cl s K use Q y.cps.size)
    (hcl : cellsIn env scope cl) (hsc : compOk scope x = true := by rfl) (hkd : scope.kind = .function := by rfl) (hclx : cl.lookup x = none := by rfl) :
    CompAt w A env elt iter x px pos ifs scope cl use Q (.str y t) s := by
  have key : ∀ T', strIterType y = T' → (T' = "str_ascii_iterator" ∨ T' = "str_iterator") := fun T' e => by
    unfold strIterType at e; split at e
    · exact .inl e.symm
    · exact .inr e.symm
  have mu : OkMu { cls := .type (strIterType y), data := .fields #[.str y t, .int 0 0] } := by
    refine ⟨nofun, ?_, fun ⟨vs, q, t, e, e'⟩ => by cases e; simp at e'⟩
    show Value.type (strIterType y) ≠ .type "code"
    rcases key _ rfl with e | e <;> rw [e] <;> decide
  have hs0 : (s.heap.push { cls := .type (strIterType y), data := .fields #[.str y t, .int 0 0] }).IsStrIter s.heap.objs.size (strIterType y) y t 0 := ⟨_, Heap.get?_push_size _ rfl, rfl, rfl⟩
  rcases key _ rfl with e | e
  · refine comp_go (oI := { cls := .type (strIterType y), data := .fields #[.str y t, .int 0 0] }) Z mu rfl (fun Q' h => @wpAny_pyIter_strU _ _ _ _ _ _ _ _ h) (Walks.strAscii hh s.heap.objs.size y t) (fun i h e => sit_ok (by decide) e) (fun b hb => .inl (by simpa using hb)) (by rw [← e]; exact hs0) hn K hK (fun C D i ys newsI oI nn v s' h1 h2 h3 => ?_) fin hsc hkd hcl hclx
    obtain ⟨c, u, hc, rfl⟩ := h3
    exact turn C D i ys newsI oI nn c u s' h1 h2 hc
  · refine comp_go (oI := { cls := .type (strIterType y), data := .fields #[.str y t, .int 0 0] }) Z mu rfl (fun Q' h => @wpAny_pyIter_strU _ _ _ _ _ _ _ _ h) (Walks.strWide hh s.heap.objs.size y t) (fun i h e => sit_ok (by decide) e) (fun b hb => .inl (by simpa using hb)) (by rw [← e]; exact hs0) hn K hK (fun C D i ys newsI oI nn v s' h1 h2 h3 => ?_) fin hsc hkd hcl hclx
    obtain ⟨c, u, hc, rfl⟩ := h3
    exact turn C D i ys newsI oI nn c u s' h1 h2 hc
end
end
end Mine
namespace Mine
open PySem PySem.W PySem.Calls PyProof.Rows PySem.Builtin.Str
noncomputable def cut {α : Type} (xs : List α) (lo hi : Option Int) : List α := (xs.drop (kms_lo lo xs.length)).take (kms_hi hi xs.length - kms_lo lo xs.length)
noncomputable def cutS (x : Str) (lo hi : Option Int) : Str := ⟨(cut x.cps.toList lo hi).toArray⟩
theorem cutS_list {x : Str} {lo hi : Option Int} : (cutS x lo hi).cps.toList = cut x.cps.toList lo hi := rfl
theorem cut_length_le {α : Type} (xs : List α) (lo hi : Option Int) : (cut xs lo hi).length ≤ xs.length := by
  unfold cut; rw [List.length_take, List.length_drop]; omega
theorem kms_hi_le (v : Option Int) (n : Nat) : kms_hi v n ≤ n := by
  unfold kms_hi; split
  · exact Nat.le_refl _
  · split <;> omega
theorem cut_full {α : Type} {xs : List α} {lo hi : Option Int} (h : (cut xs lo hi).length = xs.length) : cut xs lo hi = xs := by
  unfold cut at *
  have h1 := kms_hi_le hi xs.length
  rw [List.length_take, List.length_drop] at h
  rcases Nat.eq_zero_or_pos xs.length with h0 | h0
  · have : xs = [] := List.length_eq_zero_iff.mp h0
    subst this; simp
  · have e : kms_lo lo xs.length = 0 := by omega
    rw [e] at h ⊢
    rw [List.drop_zero, List.take_of_length_le (by lia)]
theorem idx_str (x : Str) (lo hi : Option Int) : strSliceIndices lo hi 1 x.length = (List.range (kms_hi hi x.length - kms_lo lo x.length)).map (kms_lo lo x.length + ·) := by
  have e : strSliceIndices lo hi 1 x.length = sliceRange (sliceBounds lo hi none x.length).1 (sliceBounds lo hi none x.length).2.1 1 := by
    cases lo <;> cases hi <;> rfl
  rw [e, kms_bounds]
  exact sliceRange_one _ _
theorem pick_str (x : Str) (lo hi : Option Int) : (strSliceIndices lo hi 1 x.length).filterMap (x.cps[·]?) = cut x.cps.toList lo hi := by
  rw [idx_str, pick_run]
  unfold cut
  rw [show x.cps.toList.length = x.length by simp [Str.length]]
section
variable {w : World} {T : Tops} {s₀ s : Shared} {env : Env} {m : Str → Option Value} {mus news : List (Addr × Obj)} {A : Around} {E : Value → Shared → Prop} {Q : Value → Shared → Prop}
noncomputable abbrev sliceO (vl vu vs : Value) : Obj := { cls := .type "slice", data := .fields #[vl, vu, vs] }
theorem st_builtin' {value slice : Expr} {o i : Value} {T id : String} {ops : List Value} (hT : s.TypeIs o T)
    (hl : typeLookup (.type T) "__getitem__" = pure (some (.builtin id))) (h : wpAny (model P31 w) A (getItem o i) Q E s)
    (hs : subscripted slice false o i = operate ops (getItem o i)) : wpAny (model P31 w) A (subscriptTail value slice o i) Q E s := by
  unfold subscriptTail
  refine @wpAny_bind _ _ _ _ _ _ _ _ _ ?_
  rw [getitemInPython_of_ne hT.not_modules]
  refine @wpAny_bind _ _ _ _ _ _ _ _ _ (@wpAny_specialOf _ _ _ _ _ _ _ _ _ hT hl ?_)
  have fin : wpAny (model P31 w) A (subscripted slice false o i) (fun r s₃ => wpAny (model P31 w) A (letTemporaryGo value o r >>= fun _ => pure r) Q E s₃) E s := by
    rw [hs]
    exact @wpAny_operating _ _ _ _ _ _ _ (@wpAny_mono _ _ _ _ _ _ _ _ _ h (fun r s₃ h₃ => @wpAny_bind _ _ _ _ _ _ _ _ _ (@wpAny_letTemporaryGo _ _ _ _ _ _ _ _ _ (@wpAny_pure _ _ _ _ _ _ _ h₃))) fun _ _ x => x)
  first
    | exact @wpAny_pure _ _ _ _ _ _ _ (@wpAny_bind _ _ _ _ _ _ _ _ _ fin)
    | exact @wpAny_bind _ _ _ _ _ _ _ _ _ (@wpAny_pure _ _ _ _ _ _ _ (@wpAny_bind _ _ _ _ _ _ _ _ _ fin))
    | exact @wpAny_bind _ _ _ _ _ _ _ _ _ fin
theorem St.slice (Z : St w T s₀ env m mus news s) {vl vu vs : Value} : St w T s₀ env m mus news { s with heap := s.heap.push (sliceO vl vu vs) } := Z.later (.of_keep (t := s.toks) Z.g (push_keep s _))
/-- a slice of a list -/
theorem sl_list {value slice : Expr} {l : Addr} {lo : Obj} {xs : Array Value} {vl vu : Value} {a b : Option Int} (Z : St w T s₀ env m mus news s) (hl : s.heap.get? l = some lo) (hlo : IsL lo xs) (pl : IsPart vl a) (pu : IsPart vu b) (hsz : xs.size ≤ 2 ^ 20)
    (h : ∀ d s, St w T s₀ env m mus ((d, lstO (cut xs.toList a b).toArray 0) :: news) s → Q (.ref d) s)
    (hs : subscripted slice false (.ref l) (.ref s.heap.objs.size) = operate [.ref s.heap.objs.size, .ref l] (getItem (.ref l) (.ref s.heap.objs.size)) := by with_unfolding_all rfl) :
    wpAny (model P31 w) A (subscriptTail value slice (.ref l) (.ref s.heap.objs.size)) Q E { s with heap := s.heap.push (sliceO vl vu .none) } := by
  have Y := Z.slice (vl := vl) (vu := vu) (vs := .none)
  have hl' := hlo.list (Heap.get?_push_of_some (sliceO vl vu .none) hl)
  refine st_builtin' (T := "list") hl'.typeIs slot_list_getitem.lookup (@wpAny_getItem_list_slice _ _ _ _ _ _ _ _ _ _ _ _ _ _ _ hl' (.new ..) pl pu .none nofun ?_ (Nat.le_trans hsz (by decide))) hs
  rw [kms_pick_eq]
  exact h _ _ (Y.join1 (.of_keep (t := s.toks) Y.g (push_keep _ _)) ⟨Heap.get?_push_size _ rfl, nofun, fresh_size⟩)
/-- a list turned round -/
theorem sl_rev {value slice : Expr} {l : Addr} {lo : Obj} {xs : Array Value} {t : Tok} (Z : St w T s₀ env m mus news s) (hl : s.heap.get? l = some lo) (hlo : IsL lo xs) (hsz : xs.size ≤ 2 ^ 20)
    (h : ∀ d s, St w T s₀ env m mus ((d, lstO xs.toList.reverse.toArray 0) :: news) s → Q (.ref d) s)
    (hs : subscripted slice false (.ref l) (.ref s.heap.objs.size) = operate [.ref l, .ref s.heap.objs.size] (getItem (.ref l) (.ref s.heap.objs.size)) := by with_unfolding_all rfl) :
    wpAny (model P31 w) A (subscriptTail value slice (.ref l) (.ref s.heap.objs.size)) Q E { s with heap := s.heap.push (sliceO .none .none (.int (-1) t)) } := by
  have Y := Z.slice (vl := .none) (vu := .none) (vs := .int (-1) t)
  have hl' := hlo.list (Heap.get?_push_of_some (sliceO .none .none (.int (-1) t)) hl)
  refine st_builtin' (T := "list") hl'.typeIs slot_list_getitem.lookup (@wpAny_getItem_list_slice _ _ _ _ _ _ _ _ _ _ _ _ _ _ _ hl' (.new ..) .none .none (.int _ _) (by decide) ?_ (Nat.le_trans hsz (by decide))) hs
  rw [krv_pick]
  exact h _ _ (Y.join1 (.of_keep (t := s.toks) Y.g (push_keep _ _)) ⟨Heap.get?_push_size _ rfl, nofun, fresh_size⟩)
/-- a slice of a text -/
theorem sl_str {value slice : Expr} {x : Str} {t : Tok} {l u : Option (Int × Tok)} (Z : St w T s₀ env m mus news s) (hsz : x.length ≤ sizeLine)
    (h : ∀ t s, St w T s₀ env m mus news s → Q (.str (cutS x (l.map (·.1)) (u.map (·.1))) t) s)
    (hs : subscripted slice false (.str x t) (.ref s.heap.objs.size) = operate [.ref s.heap.objs.size, .str x t] (getItem (.str x t) (.ref s.heap.objs.size)) := by with_unfolding_all rfl) :
    wpAny (model P31 w) A (subscriptTail value slice (.str x t) (.ref s.heap.objs.size)) Q E { s with heap := s.heap.push (sliceO (partValue l) (partValue u) .none) } := by
  have Y := Z.slice (vl := partValue l) (vu := partValue u) (vs := .none)
  refine st_builtin' (T := "str") (typeIs_str _ x t) F.slot_str_getitem.lookup (wpAny_getItem_str_slice (l := l) (u := u) (st := none) ⟨_, Heap.get?_push_size _ rfl, rfl, rfl⟩ rfl ?_) hs
  have e : (slicePicked x l u none).filterMap (x.cps[·]?) = cut x.cps.toList (l.map (·.1)) (u.map (·.1)) := pick_str x _ _
  unfold sliceMade
  rw [e]
  refine post_val_or_made (fun _ => ?_) fun t' k => ?_
  · refine Nat.le_trans ?_ hsz
    have := cut_length_le x.cps.toList (l.map (·.1)) (u.map (·.1))
    simpa [Str.length] using this
  · have e2 : (if (((none : Option (Int × Tok)).map (·.1)).getD 1 == 1 && (slicePicked x l u none).length == x.length) = true then x else (⟨(cut x.cps.toList (l.map (·.1)) (u.map (·.1))).toArray⟩ : Str)) = cutS x (l.map (·.1)) (u.map (·.1)) := by
      split
      · rename_i hc
        have hlen : (slicePicked x l u none).length = x.length := by simpa using hc
        have h2 : (slicePicked x l u none).length = kms_hi (u.map (·.1)) x.length - kms_lo (l.map (·.1)) x.length := by
          show (strSliceIndices (l.map (·.1)) (u.map (·.1)) 1 x.length).length = _
          rw [idx_str]; simp
        have h3 := kms_hi_le (u.map (·.1)) x.length
        have hx : x.cps.toList.length = x.length := by simp [Str.length]
        have : cut x.cps.toList (l.map (·.1)) (u.map (·.1)) = x.cps.toList := cut_full (by
          unfold cut; rw [List.length_take, List.length_drop, hx]; omega)
        unfold cutS
        rw [this]
      · rfl
    rw [e2]
    exact h _ _ (Y.tok (t := k))
noncomputable def revS (x : Str) : Str := ⟨x.cps.toList.reverse.toArray⟩
theorem sl_revS {value slice : Expr} {x : Str} {t u : Tok} (Z : St w T s₀ env m mus news s) (hsz : x.length ≤ sizeLine)
    (h : ∀ t s, St w T s₀ env m mus news s → Q (.str (revS x) t) s)
    (hs : subscripted slice false (.str x t) (.ref s.heap.objs.size) = operate [.str x t, .ref s.heap.objs.size] (getItem (.str x t) (.ref s.heap.objs.size)) := by with_unfolding_all rfl) :
    wpAny (model P31 w) A (subscriptTail value slice (.str x t) (.ref s.heap.objs.size)) Q E { s with heap := s.heap.push (sliceO .none .none (.int (-1) u)) } := by
  have Y := Z.slice (vl := .none) (vu := .none) (vs := .int (-1) u)
  refine st_builtin' (T := "str") (typeIs_str _ x t) F.slot_str_getitem.lookup (wpAny_getItem_str_slice (l := none) (u := none) (st := some (-1, u)) ⟨_, Heap.get?_push_size _ rfl, rfl, rfl⟩ rfl ?_) hs
  have e : (slicePicked x none none (some (-1, u))).filterMap (x.cps[·]?) = x.cps.toList.reverse := by
    show (strSliceIndices none none (-1) x.length).filterMap (x.cps[·]?) = _
    rw [picked_rev, krv_range, List.filterMap_reverse]
    congr 1
    exact krv_all x.cps
  unfold sliceMade
  rw [e]
  refine post_val_or_made (fun _ => ?_) fun t' k => ?_
  · refine Nat.le_trans (Nat.le_of_eq ?_) hsz
    simp [Str.length]
  · rw [if_neg (by simp)]
    exact h _ _ (Y.tok (t := k))
end
end Mine
namespace Mine
open PySem PySem.W PySem.Builtin.Str PySem.StrLaws
noncomputable abbrev tl (x : Str) : List Nat := x.cps.toList
theorem tl_len (x : Str) : (tl x).length = x.length := by simp [Str.length]
theorem tl_inj {x y : Str} (h : tl x = tl y) : x = y := by
  cases x; cases y; simp at h; rw [h]
theorem tl_append (x y : Str) : tl (x ++ y) = tl x ++ tl y := by
  show (x.cps ++ y.cps).toList = _; simp
noncomputable def dotless (x : Str) : Prop := 46 ∉ tl x
theorem tl_dots : tl dots = [46, 46, 46] := by decide
theorem dots_len : dots.length = 3 := by decide
noncomputable def stp (s sub : Str) (hi limit : Nat) (st : Array Nat × Nat) (i : Nat) : Array Nat × Nat :=
  if ((st.1.size < limit ∧ st.2 ≤ i) ∧ i + sub.length ≤ hi) ∧ subAt s sub i = true then (st.1.push i, i + sub.length) else st
theorem occ_foldl (s sub : Str) (lo hi limit : Nat) : occurrences s sub lo hi limit = ((List.range' lo (hi + 1 - lo)).foldl (stp s sub hi limit) (#[], lo)).1.toList := by
  rw [occ_eq]
  congr 1
  have : ∀ (l : List Nat) (st : Array Nat × Nat), (forIn l st (occBody s sub hi limit)).run = l.foldl (stp s sub hi limit) st := by
    intro l
    induction l with
    | nil => intro st; rfl
    | cons a l ih =>
      intro st
      rw [List.forIn_cons, List.foldl_cons]
      unfold occBody stp
      split
      · exact ih _
      · exact ih _
  rw [this]
theorem fold_stay {s sub : Str} {hi limit : Nat} {st : Array Nat × Nat} : ∀ {l : List Nat}, (∀ i ∈ l, ¬ (st.2 ≤ i ∧ i + sub.length ≤ hi ∧ subAt s sub i = true)) → l.foldl (stp s sub hi limit) st = st
  | [], _ => rfl
  | a :: l, h => by
    have e : stp s sub hi limit st a = st := by
      unfold stp
      rw [if_neg fun c => h a (List.mem_cons_self ..) ⟨c.1.1.2, c.1.2, c.2⟩]
    rw [List.foldl_cons, e]
    exact fold_stay fun i hi => h i (List.mem_cons_of_mem _ hi)
/-- the first place -/
theorem occ_first {s sub : Str} {lo hi : Nat} : (∃ i, occurrences s sub lo hi 1 = [i] ∧ lo ≤ i ∧ i + sub.length ≤ hi ∧ subAt s sub i = true ∧ ∀ j, lo ≤ j → j < i → subAt s sub j = false) ∨
    (occurrences s sub lo hi 1 = [] ∧ ∀ j, lo ≤ j → j + sub.length ≤ hi → subAt s sub j = false) := by
  rw [occ_foldl]
  have full : ∀ (l : List Nat) (i f : Nat), l.foldl (stp s sub hi 1) (#[i], f) = (#[i], f) := by
    intro l
    induction l with
    | nil => intro _ _; rfl
    | cons a l ih =>
      intro i f
      rw [List.foldl_cons]
      have : stp s sub hi 1 (#[i], f) a = (#[i], f) := by
        unfold stp
        rw [if_neg fun c => absurd c.1.1.1 (by simp)]
      rw [this]; exact ih i f
  have key : ∀ (n a : Nat), a + n = hi + 1 → lo ≤ a → (∀ j, lo ≤ j → j < a → subAt s sub j = false ∨ hi < j + sub.length) →
      (∃ i, ((List.range' a n).foldl (stp s sub hi 1) (#[], lo)).1.toList = [i] ∧ lo ≤ i ∧ i + sub.length ≤ hi ∧ subAt s sub i = true ∧ ∀ j, lo ≤ j → j < i → subAt s sub j = false) ∨
      (((List.range' a n).foldl (stp s sub hi 1) (#[], lo)).1.toList = [] ∧ ∀ j, lo ≤ j → j + sub.length ≤ hi → subAt s sub j = false) := by
    intro n
    induction n with
    | zero =>
      intro a ha hlo hb
      exact .inr ⟨rfl, fun j h1 h2 => (hb j h1 (by lia)).elim id fun h => by lia⟩
    | succ n ih =>
      intro a ha hlo hb
      rw [List.range'_succ, List.foldl_cons]
      by_cases hc : a + sub.length ≤ hi ∧ subAt s sub a = true
      · have e : stp s sub hi 1 (#[], lo) a = (#[a], a + sub.length) := by
          unfold stp
          rw [if_pos ⟨⟨⟨by simp, hlo⟩, hc.1⟩, hc.2⟩]; rfl
        rw [e, full]
        exact .inl ⟨a, rfl, hlo, hc.1, hc.2, fun j h1 h2 => (hb j h1 h2).elim id fun h => by lia⟩
      · have e : stp s sub hi 1 (#[], lo) a = (#[], lo) := by
          unfold stp
          rw [if_neg fun c => hc ⟨c.1.2, c.2⟩]
        rw [e]
        refine ih (a + 1) (by lia) (by lia) fun j h1 h2 => ?_
        rcases Nat.lt_or_eq_of_le (Nat.le_of_lt_succ h2) with h3 | rfl
        · exact hb j h1 h3
        · cases hsub : subAt s sub j with
          | false => exact .inl rfl
          | true => exact .inr (Nat.lt_of_not_le fun h => hc ⟨h, hsub⟩)
  rcases Nat.lt_or_ge hi lo with h | h
  · right
    rw [show hi + 1 - lo = 0 by omega]
    exact ⟨rfl, fun j h1 h2 => by lia⟩
  · exact key (hi + 1 - lo) lo (by lia) (Nat.le_refl _) fun j h1 h2 => by omega
noncomputable def jn : List Str → List Nat
  | [] => []
  | [p] => tl p
  | p :: q :: r => tl p ++ ([46, 46, 46] ++ jn (q :: r))
theorem jn_join : ∀ ps : List Str, tl (Txt.join dots ps) = jn ps := by
  intro ps
  unfold Txt.join
  rw [glued_eq_join]
  induction ps with
  | nil => rfl
  | cons p r ih =>
    cases r with
    | nil => rfl
    | cons q r =>
      show tl (p ++ dots ++ Str.join dots (q :: r)) = _
      rw [tl_append, tl_append, ih, tl_dots, List.append_assoc]; rfl
noncomputable def posn (a : Nat) : List Str → List Nat
  | [] => []
  | [_] => []
  | p :: q :: r => (a + p.length) :: posn (a + p.length + 3) (q :: r)
theorem sub_take {s : Str} {i : Nat} : subAt s dots i = true ↔ ((tl s).drop i).take 3 = [46, 46, 46] := by
  rw [subAt_eq]
  show (((tl s).drop i).take dots.length == tl dots) = true ↔ _
  rw [tl_dots, dots_len, beq_iff_eq]
theorem sub_hd {s : Str} {i : Nat} (h : subAt s dots i = true) : (tl s)[i]? = some 46 ∧ (tl s)[i + 1]? = some 46 ∧ (tl s)[i + 2]? = some 46 := by
  have h := sub_take.mp h
  have e : ∀ k, k < 3 → (tl s)[i + k]? = ([46, 46, 46] : List Nat)[k]? := fun k hk => by
    rw [← h, List.getElem?_take_of_lt hk, List.getElem?_drop]
  exact ⟨e 0 (by decide), e 1 (by decide), e 2 (by decide)⟩
theorem sub_at {s : Str} {a b : List Nat} (h : tl s = a ++ ([46, 46, 46] ++ b)) : subAt s dots a.length = true := by
  rw [sub_take, h, List.drop_left]; rfl
theorem scan {s : Str} : ∀ (ps : List Str) (pre : List Nat) (acc : Array Nat) (free limit : Nat), ps ≠ [] → (∀ p ∈ ps, dotless p) → tl s = pre ++ jn ps → free ≤ pre.length → acc.size + ps.length ≤ limit →
    ((List.range' pre.length ((jn ps).length + 1)).foldl (stp s dots s.length limit) (acc, free)).1.toList = acc.toList ++ posn pre.length ps := by
  intro ps
  induction ps with
  | nil => intro _ _ _ _ h; exact absurd rfl h
  | cons p r ih =>
    intro pre acc free limit _ hdl hs hf hl
    have hp := hdl p (List.mem_cons_self ..)
    have nop : ∀ rest : List Nat, tl s = pre ++ (tl p ++ rest) → ∀ i, pre.length ≤ i → i < pre.length + p.length → ¬ subAt s dots i = true := by
      intro rest e i h1 h2 hc
      have := (sub_hd hc).1
      rw [e, List.getElem?_append_right h1, List.getElem?_append_left (by rw [tl_len]; lia)] at this
      exact hp (List.mem_of_getElem? this)
    have hlen : s.length = pre.length + (jn (p :: r)).length := by rw [← tl_len, hs, List.length_append]
    cases r with
    | nil =>
      show _ = acc.toList ++ []
      rw [List.append_nil]
      show ((List.range' pre.length ((tl p).length + 1)).foldl (stp s dots s.length limit) (acc, free)).1.toList = _
      rw [fold_stay]
      intro i hi hc
      have hi := List.mem_range'_1.mp hi
      rw [tl_len] at hi
      have h3 : i + 3 ≤ s.length := hc.2.1
      have hlen : s.length = pre.length + (tl p).length := hlen
      rw [tl_len] at hlen
      exact nop [] (by rw [List.append_nil]; exact hs) i hi.1 (by lia) hc.2.2
    | cons q r =>
      have e0 : tl s = pre ++ (tl p ++ ([46, 46, 46] ++ jn (q :: r))) := hs
      have elen : (jn (p :: q :: r)).length = p.length + (3 + (jn (q :: r)).length) := by
        show (tl p ++ ([46, 46, 46] ++ jn (q :: r))).length = _
        rw [List.length_append, List.length_append, tl_len]; rfl
      rw [elen, show p.length + (3 + (jn (q :: r)).length) + 1 = p.length + (1 + (2 + ((jn (q :: r)).length + 1))) by lia, ← List.range'_append_1, ← List.range'_append_1, ← List.range'_append_1, List.foldl_append, List.foldl_append, List.foldl_append]
      rw [fold_stay fun i hi hc => nop _ e0 i (List.mem_range'_1.mp hi).1 (List.mem_range'_1.mp hi).2 hc.2.2]
      have hat : subAt s dots (pre.length + p.length) = true := by
        have := sub_at (s := s) (a := pre ++ tl p) (b := jn (q :: r)) (by rw [e0, List.append_assoc])
        rw [List.length_append, tl_len] at this
        exact this
      have e1 : (List.range' (pre.length + p.length) 1).foldl (stp s dots s.length limit) (acc, free) = (acc.push (pre.length + p.length), pre.length + p.length + 3) := by
        show stp s dots s.length limit (acc, free) (pre.length + p.length) = _
        unfold stp
        rw [if_pos ⟨⟨⟨by simp at hl ⊢; lia, by show free ≤ _; lia⟩, by rw [dots_len, hlen, elen]; lia⟩, hat⟩, dots_len]
      rw [e1]
      have e2 : (List.range' (pre.length + p.length + 1) 2).foldl (stp s dots s.length limit) (acc.push (pre.length + p.length), pre.length + p.length + 3) = (acc.push (pre.length + p.length), pre.length + p.length + 3) := fold_stay fun i hi hc => by
        have h1 := List.mem_range'_1.mp hi
        have h2 : pre.length + p.length + 3 ≤ i := hc.1
        (clear hf hl e1 h2; omega)
      rw [e2]
      have elp : (pre ++ tl p ++ [46, 46, 46]).length = pre.length + p.length + 3 := by rw [List.length_append, List.length_append, tl_len]; rfl
      have := ih (pre ++ tl p ++ [46, 46, 46]) (acc.push (pre.length + p.length)) (pre.length + p.length + 3) limit (by simp) (fun x hx => hdl x (List.mem_cons_of_mem _ hx)) (by rw [e0]; simp) (by rw [elp]; exact Nat.le_refl _) (by simp at hl ⊢; lia)
      rw [elp] at this
      rw [show pre.length + p.length + 1 + 2 = pre.length + p.length + 3 by lia]
      rw [this]
      simp [posn]
theorem strSub_mid {s : Str} {a b c : List Nat} (h : tl s = a ++ (b ++ c)) : tl (strSub s a.length (a.length + b.length)) = b := by
  show (strSub s _ _).cps.toList = _
  rw [strSub_toList]
  show ((tl s).drop _).take _ = _
  rw [h, List.drop_left, Nat.add_sub_cancel_left, List.take_left]
theorem parts_scan {s : Str} : ∀ (ps : List Str) (pre : List Nat), ps ≠ [] → tl s = pre ++ jn ps → partsFrom s 3 pre.length (posn pre.length ps) = ps := by
  intro ps
  induction ps with
  | nil => intro _ h; exact absurd rfl h
  | cons p r ih =>
    intro pre _ hs
    cases r with
    | nil =>
      show [strSub s pre.length s.length] = [p]
      have hlen : s.length = pre.length + (tl p).length := by rw [← tl_len, hs, List.length_append]; rfl
      rw [hlen, tl_inj (strSub_mid (s := s) (a := pre) (b := tl p) (c := []) (by rw [List.append_nil]; exact hs))]
    | cons q r =>
      have e0 : tl s = pre ++ (tl p ++ ([46, 46, 46] ++ jn (q :: r))) := hs
      show strSub s pre.length (pre.length + p.length) :: partsFrom s 3 (pre.length + p.length + 3) (posn (pre.length + p.length + 3) (q :: r)) = _
      have h1 := tl_inj (strSub_mid (s := s) (a := pre) (b := tl p) e0)
      rw [tl_len] at h1
      rw [h1]
      have elp : (pre ++ tl p ++ [46, 46, 46]).length = pre.length + p.length + 3 := by rw [List.length_append, List.length_append, tl_len]; rfl
      have := ih (pre ++ tl p ++ [46, 46, 46]) (by simp) (by rw [e0]; simp)
      rw [elp] at this
      rw [this]
theorem jn_len2 {p q : Str} {r : List Str} : 3 ≤ (jn (p :: q :: r)).length := by
  show 3 ≤ (tl p ++ ([46, 46, 46] ++ jn (q :: r))).length
  simp; lia
theorem count_le : ∀ ps : List Str, ps.length ≤ (jn ps).length + 1
  | [] => by simp
  | [_] => by simp
  | p :: q :: r => by
    have := count_le (q :: r)
    show (q :: r).length + 1 ≤ (tl p ++ ([46, 46, 46] ++ jn (q :: r))).length + 1
    simp only [List.length_append, List.length_cons, List.length_nil] at *; lia
theorem contains_jn {p q : Str} {r : List Str} {x : Str} (h : tl x = jn (p :: q :: r)) : Txt.contains x dots = true := by
  have e0 : tl x = tl p ++ ([46, 46, 46] ++ jn (q :: r)) := h
  refine (found_iff x dots).mpr ⟨(tl p).length, ?_, sub_at e0⟩
  rw [dots_len, ← tl_len, e0]; simp
theorem split_jn {p q : Str} {r : List Str} {x : Str} (h : tl x = jn (p :: q :: r)) (hd : ∀ z ∈ p :: q :: r, dotless z) : Txt.split x dots = p :: q :: r := by
  have hocc : occurrences x dots 0 x.length (x.length + 1) = posn 0 (p :: q :: r) := by
    rw [occ_foldl]
    have := scan (s := x) (p :: q :: r) [] #[] 0 (x.length + 1) (by simp) hd (by rw [List.nil_append]; exact h) (Nat.le_refl _) (by
      have := count_le (p :: q :: r)
      rw [← h, tl_len] at this
      simp at this ⊢; lia)
    rw [← h, tl_len] at this
    simpa using this
  unfold Txt.split
  have hl : dots.length ≤ x.length := by rw [dots_len, ← tl_len, h]; exact jn_len2
  have hk : ¬ Builtin.Str.strKind x < Builtin.Str.strKind dots := by
    have : Builtin.Str.strKind dots = 1 := by with_unfolding_all rfl
    rw [this]
    unfold Builtin.Str.strKind
    split
    · lia
    · split <;> lia
  rw [if_neg (by simp; lia), hocc, if_neg (by simp [posn]), partsBetween_eq, dots_len]
  exact parts_scan (p :: q :: r) [] (by simp) (by rw [List.nil_append]; exact h)
theorem no_contains {x : Str} (h : ∀ i, (tl x)[i]? = some 46 → (tl x)[i + 1]? = some 46 → False) : Txt.contains x dots = false := by
  rw [Bool.eq_false_iff]
  intro hc
  obtain ⟨i, _, hi⟩ := (found_iff x dots).mp hc
  exact h i (sub_hd hi).1 (sub_hd hi).2.1
/-- what _ellipsis_match wants of its text -/
noncomputable def EllOk (x : Str) : Prop := x.length + 2 ≤ sizeLine ∧ (Txt.contains x dots = true → 2 ≤ (Txt.split x dots).length ∧ (Txt.split x dots).length ≤ 2 ^ 20 ∧ ∀ p ∈ Txt.split x dots, p.length < 2 ^ 60)
theorem EllOk.no {x : Str} (h : Txt.contains x dots = false) (hl : x.length + 2 ≤ sizeLine) : EllOk x := ⟨hl, fun e => by rw [h] at e; cases e⟩
theorem jn_part : ∀ (ps : List Str), ∀ z ∈ ps, z.length ≤ (jn ps).length
  | [], _, h => by cases h
  | [p], z, h => by rw [List.mem_singleton.mp h]; exact Nat.le_of_eq (tl_len p).symm
  | p :: q :: r, z, h => by
    show z.length ≤ (tl p ++ ([46, 46, 46] ++ jn (q :: r))).length
    rcases List.mem_cons.mp h with rfl | h
    · rw [List.length_append, tl_len]; lia
    · have := jn_part (q :: r) z h
      simp at this ⊢; lia
theorem EllOk.jn {p q : Str} {r : List Str} {x : Str} (h : tl x = jn (p :: q :: r)) (hd : ∀ z ∈ p :: q :: r, dotless z) (hl : x.length ≤ 2 ^ 19) : EllOk x := by
  refine ⟨by unfold sizeLine; lia, fun _ => ?_⟩
  rw [split_jn h hd]
  have h1 := count_le (p :: q :: r)
  rw [← h, tl_len] at h1
  refine ⟨by simp, by lia, fun z hz => ?_⟩
  have := jn_part (p :: q :: r) z hz
  rw [← h, tl_len] at this
  lia
theorem ellM_jn {p q : Str} {r : List Str} {x y : Str} (h : tl x = jn (p :: q :: r)) (hd : ∀ z ∈ p :: q :: r, dotless z) : ellM x y = ellTop y (p :: q :: r) := by
  unfold ellM; rw [if_pos (contains_jn h), split_jn h hd]
theorem ellM_no {x y : Str} (h : Txt.contains x dots = false) : ellM x y = (x == y) := by
  unfold ellM; rw [h]; rfl
end Mine
namespace Mine
open PySem PySem.W PySem.Calls PyProof.Rows PySem.Builtin.Str
/-- the text from a to b -/
noncomputable def sub (x : Str) (a b : Nat) : Str := ⟨((tl x).drop a |>.take (b - a)).toArray⟩
theorem tl_sub {x : Str} {a b : Nat} : tl (sub x a b) = ((tl x).drop a).take (b - a) := rfl
theorem kms_lo_nat {a n : Nat} : kms_lo (some (a : Int)) n = min a n := by
  unfold kms_lo; dsimp only
  rw [if_neg (by lia), Int.toNat_natCast]
theorem kms_hi_nat {a n : Nat} : kms_hi (some (a : Int)) n = min a n := by
  unfold kms_hi; dsimp only
  rw [if_neg (by omega), Int.toNat_natCast]
theorem take_min_drop {α : Type} {xs : List α} {a b : Nat} : (xs.drop (min a xs.length)).take (min b xs.length - min a xs.length) = (xs.drop a).take (b - a) := by
  rcases Nat.le_total a xs.length with h | h
  · rw [Nat.min_eq_left h]
    rcases Nat.le_total b xs.length with h2 | h2
    · rw [Nat.min_eq_left h2]
    · rw [Nat.min_eq_right h2, List.take_of_length_le (by simp), List.take_of_length_le (by simp; lia)]
  · rw [Nat.min_eq_right h, List.drop_of_length_le (Nat.le_refl _), List.drop_of_length_le h]; simp
theorem cut_nat {α : Type} {xs : List α} {a b : Nat} : cut xs (some (a : Int)) (some (b : Int)) = (xs.drop a).take (b - a) := by
  unfold cut; rw [kms_lo_nat, kms_hi_nat]; exact take_min_drop
theorem cut_from {α : Type} {xs : List α} {a : Nat} : cut xs (some (a : Int)) none = xs.drop a := by
  unfold cut; rw [kms_lo_nat]
  show (xs.drop (min a xs.length)).take (xs.length - min a xs.length) = _
  rcases Nat.le_total a xs.length with h | h
  · rw [Nat.min_eq_left h, List.take_of_length_le (by simp)]
  · rw [Nat.min_eq_right h, List.drop_of_length_le (Nat.le_refl _), List.drop_of_length_le h]; simp
theorem cut_upto {α : Type} {xs : List α} {b : Nat} : cut xs none (some (b : Int)) = xs.take b := by
  unfold cut; rw [kms_hi_nat]
  show (xs.drop 0).take (min b xs.length - 0) = _
  rw [List.drop_zero, Nat.sub_zero]
  rcases Nat.le_total b xs.length with h | h
  · rw [Nat.min_eq_left h]
  · rw [Nat.min_eq_right h, List.take_length, List.take_of_length_le h]
theorem cutS_nat {x : Str} {a b : Nat} : cutS x (some (a : Int)) (some (b : Int)) = sub x a b := by
  unfold cutS sub; rw [cut_nat]
theorem sub_len {x : Str} {a b : Nat} : (sub x a b).length ≤ x.length := by
  rw [← tl_len, ← tl_len, tl_sub, List.length_take, List.length_drop]; lia
theorem sub_dotless {x : Str} {a b : Nat} (h : dotless x) : dotless (sub x a b) := fun hm => h (List.mem_of_mem_drop (List.mem_of_mem_take (by rw [← tl_sub]; exact hm)))
/-- the local repetition of size k at place c -/
noncomputable def rdAt (x : Str) (c k : Nat) : Bool := ellM (sub x (c - k) (min c (x.length - k)) ++ dots ++ sub x (c - k) (min c (x.length - k))) (sub x (c - k) (min c (x.length - k) + k))
noncomputable def roundL (x : Str) (c : Nat) : Nat := ((List.range' 1 x.length).find? (rdAt x c)).getD 0
theorem twice_jn {p : Str} : tl (p ++ dots ++ p) = jn [p, p] := by
  rw [tl_append, tl_append, tl_dots, List.append_assoc]; rfl
theorem twice_ok {p : Str} (hd : dotless p) (hl : p.length ≤ 2 ^ 16) : EllOk (p ++ dots ++ p) := .jn twice_jn (fun z hz => by
  have : z = p := by simpa using hz
  rw [this]; exact hd) (by rw [Str.length_append, Str.length_append, dots_len]; lia)
section
variable {w : World} {T : Tops} {s₀ s : Shared} {env : Env} {m : Str → Option Value} {mus news : List (Addr × Obj)} {A : Around} {E : Value → Shared → Prop} {Q : Value → Shared → Prop}
theorem sl_sub {value slice : Expr} {x : Str} {t t1 t2 : Tok} {a b : Nat} (Z : St w T s₀ env m mus news s) (hsz : x.length ≤ sizeLine)
    (h : ∀ t s, St w T s₀ env m mus news s → Q (.str (sub x a b) t) s)
    (hs : subscripted slice false (.str x t) (.ref s.heap.objs.size) = operate [.ref s.heap.objs.size, .str x t] (getItem (.str x t) (.ref s.heap.objs.size)) := by with_unfolding_all rfl) :
    wpAny (model P31 w) A (subscriptTail value slice (.str x t) (.ref s.heap.objs.size)) Q E { s with heap := s.heap.push (sliceO (.int (a : Int) t1) (.int (b : Int) t2) .none) } :=
  sl_str (l := some (_, t1)) (u := some (_, t2)) Z hsz (fun t s Z => by
    have e : cutS x ((some ((a : Int), t1)).map (·.1)) ((some ((b : Int), t2)).map (·.1)) = sub x a b := cutS_nat
    rw [e]; exact h t s Z) hs
theorem sl_from {value slice : Expr} {x : Str} {t t1 : Tok} {a : Nat} (Z : St w T s₀ env m mus news s) (hsz : x.length ≤ sizeLine)
    (h : ∀ t s, St w T s₀ env m mus news s → Q (.str ⟨((tl x).drop a).toArray⟩ t) s)
    (hs : subscripted slice false (.str x t) (.ref s.heap.objs.size) = operate [.ref s.heap.objs.size, .str x t] (getItem (.str x t) (.ref s.heap.objs.size)) := by with_unfolding_all rfl) :
    wpAny (model P31 w) A (subscriptTail value slice (.str x t) (.ref s.heap.objs.size)) Q E { s with heap := s.heap.push (sliceO (.int (a : Int) t1) .none .none) } :=
  sl_str (l := some (_, t1)) (u := none) Z hsz (fun t s Z => by
    have e : cutS x ((some ((a : Int), t1)).map (·.1)) ((none : Option (Int × Tok)).map (·.1)) = ⟨((tl x).drop a).toArray⟩ := by
      show (⟨(cut x.cps.toList (some (a : Int)) none).toArray⟩ : Str) = _; rw [cut_from]
    rw [e]; exact h t s Z) hs
theorem sl_upto {value slice : Expr} {x : Str} {t t1 : Tok} {b : Nat} (Z : St w T s₀ env m mus news s) (hsz : x.length ≤ sizeLine)
    (h : ∀ t s, St w T s₀ env m mus news s → Q (.str ⟨((tl x).take b).toArray⟩ t) s)
    (hs : subscripted slice false (.str x t) (.ref s.heap.objs.size) = operate [.ref s.heap.objs.size, .str x t] (getItem (.str x t) (.ref s.heap.objs.size)) := by with_unfolding_all rfl) :
    wpAny (model P31 w) A (subscriptTail value slice (.str x t) (.ref s.heap.objs.size)) Q E { s with heap := s.heap.push (sliceO .none (.int (b : Int) t1) .none) } :=
  sl_str (l := none) (u := some (_, t1)) Z hsz (fun t s Z => by
    have e : cutS x ((none : Option (Int × Tok)).map (·.1)) ((some ((b : Int), t1)).map (·.1)) = ⟨((tl x).take b).toArray⟩ := by
      show (⟨(cut x.cps.toList none (some (b : Int))).toArray⟩ : Str) = _; rw [cut_upto]
    rw [e]; exact h t s Z) hs
theorem ll_from {value slice : Expr} {l : Addr} {lo : Obj} {xs : Array Value} {t1 : Tok} {a : Nat} (Z : St w T s₀ env m mus news s) (hl : s.heap.get? l = some lo) (hlo : IsL lo xs) (hsz : xs.size ≤ 2 ^ 20)
    (h : ∀ d s, St w T s₀ env m mus ((d, lstO (xs.toList.drop a).toArray 0) :: news) s → Q (.ref d) s)
    (hs : subscripted slice false (.ref l) (.ref s.heap.objs.size) = operate [.ref s.heap.objs.size, .ref l] (getItem (.ref l) (.ref s.heap.objs.size)) := by with_unfolding_all rfl) :
    wpAny (model P31 w) A (subscriptTail value slice (.ref l) (.ref s.heap.objs.size)) Q E { s with heap := s.heap.push (sliceO (.int (a : Int) t1) .none .none) } :=
  @sl_list _ _ _ _ _ _ _ _ _ _ _ _ _ _ _ _ _ _ _ _ Z hl hlo (.int _ _) .none hsz (fun d s Z => by rw [cut_from] at Z; exact h d s Z) hs
theorem ll_upto {value slice : Expr} {l : Addr} {lo : Obj} {xs : Array Value} {t1 : Tok} {b : Nat} (Z : St w T s₀ env m mus news s) (hl : s.heap.get? l = some lo) (hlo : IsL lo xs) (hsz : xs.size ≤ 2 ^ 20)
    (h : ∀ d s, St w T s₀ env m mus ((d, lstO (xs.toList.take b).toArray 0) :: news) s → Q (.ref d) s)
    (hs : subscripted slice false (.ref l) (.ref s.heap.objs.size) = operate [.ref s.heap.objs.size, .ref l] (getItem (.ref l) (.ref s.heap.objs.size)) := by with_unfolding_all rfl) :
    wpAny (model P31 w) A (subscriptTail value slice (.ref l) (.ref s.heap.objs.size)) Q E { s with heap := s.heap.push (sliceO .none (.int (b : Int) t1) .none) } :=
  @sl_list _ _ _ _ _ _ _ _ _ _ _ _ _ _ _ _ _ _ _ _ Z hl hlo .none (.int _ _) hsz (fun d s Z => by rw [cut_upto] at Z; exact h d s Z) hs
theorem r_sadd {x y : Str} {t u : Tok} (Z : St w T s₀ env m mus news s) (hsz : x.length + y.length ≤ sizeLine) (h : ∀ t s, St w T s₀ env m mus news s → Q (.str (x ++ y) t) s) :
    wpAny (model P31 w) A (binaryOp .Add (.str x t) (.str y u)) Q E s := @add_str _ _ _ _ _ _ _ _ _ _ (fun t' tk => h _ _ Z.tok) hsz
end
section
variable {w : World} {T : Tops} {s₀ : Shared} {A : Around} {Q : Value → Shared → Prop}
theorem s_round {x : Str} {c : Nat} {tx u : Tok} (g : G w T s₀.heap) (room : A.depth + 1 < recursionLimit) (hh : A.handled = none) (hd : dotless x) (hx : x.length ≤ 2 ^ 10) (hc : c ≤ x.length)
    (h : ∀ s' t, Later w T s₀ s' → Q (.int (roundL x c : Nat) t) s') : wpAny (model P31 w) A (call (.ref (T.f 16)) [.str x tx, .int c u]) Q NoE s₀ := by
  refine call_fn (i := 16) (binds := [("signs", .str x tx), ("cut", .int c u)]) (by decide) g (by lia) (by rfl) (by rfl) (by rfl) (fun s Z => ?_) (by rfl) (by rfl) (by rfl)
  refine @wpAny_execs_cons _ _ _ _ _ _ _ _ <| @wpAny_For _ _ _ _ _ _ _ _ _ _ _ ( @c_call _ _ _ _ _ _ _ _ _ _ <| @ldb _ _ _ _ _ _ _ _ _ _ _ _ Z _ rfl ( @c_typ _ _ _ _ _ _ _ _ _ _ ( @a_cons _ _ _ _ _ _ _ _ _ ( @k_int _ _ _ _ _ _ _ _ _ _ _ _ _ _ Z fun t s Z => @a_cons _ _ _ _ _ _ _ _ _ ( @wpAny_BinOp _ _ _ _ _ _ _ _ _ _ <| @c_call _ _ _ _ _ _ _ _ _ _ <| @ldb _ _ _ _ _ _ _ _ _ _ _ _ Z _ rfl ( @c_blt _ _ _ _ _ _ _ _ _ _ ( @a_cons _ _ _ _ _ _ _ _ _ ( @ld _ _ _ _ _ _ _ _ _ _ _ _ Z _ rfl ( @args_nil _ _ _ _ _ _ _ <| @len_str _ _ _ _ _ _ _ _ (by lia) <| @k_int _ _ _ _ _ _ _ _ _ _ _ _ _ _ Z.tok fun t s Z => n_add (a := x.length) (b := 1) Z fun t s Z => @args_nil _ _ _ _ _ _ _ <| r_range2 (a := 1) Z fun R v s Z => ?_) (by rfl) (by rfl) (by decide) (by decide)) (by rfl)) (by rfl) (by rfl)) (by rfl) (by rfl) (by rfl) (by rfl) (by decide)) (by rfl)) (by rfl)) (by rfl) (by rfl)) (by rfl) (by rfl) (by rfl) (by rfl) (by decide)) (by intro _; rfl)
  have hadd : x.length + 1 - 1 = x.length := by lia
  refine @r_iterRange _ _ _ _ _ _ _ _ _ _ _ _ _ _ _ _ _ _ Z hh (Z.get (.head _)) (by lia) (by lia) (fun i m _ _ => m "signs" = some (.str x tx) ∧ m "cut" = some (.int (c : Int) u) ∧ (List.range' 1 i).find? (rdAt x c) = none) ⟨rfl, rfl, rfl⟩ ?_ (?_) (by intro _ _; rfl)
  · rintro I i m mus news oI t s hi ⟨m1, m2, k⟩ Z
    rw [hadd] at hi
    refine @wpAny_assign_Name _ _ _ _ _ _ _ _ _ <| @stl _ _ _ _ _ _ _ _ _ _ _ Z _ (fun s Z => ?_) (by rfl) (by rfl) (by rfl)
    refine @wpAny_execs_cons _ _ _ _ _ _ _ _ <| @wpAny_Assign_Name _ _ _ _ _ _ _ _ _ _ ( @c_call _ _ _ _ _ _ _ _ _ _ <| @ldb _ _ _ _ _ _ _ _ _ _ _ _ Z _ rfl ( @c_blt _ _ _ _ _ _ _ _ _ _ ( @a_cons _ _ _ _ _ _ _ _ _ ( @k_int _ _ _ _ _ _ _ _ _ _ _ _ _ _ Z fun t s Z => @a_cons _ _ _ _ _ _ _ _ _ ( @wpAny_BinOp _ _ _ _ _ _ _ _ _ _ <| @ld _ _ _ _ _ _ _ _ _ _ _ _ Z _ m2 ( @ld _ _ _ _ _ _ _ _ _ _ _ _ Z _ rfl ( @r_sub _ _ _ _ _ _ _ _ _ _ _ _ _ _ _ Z fun t s Z => @args_nil _ _ _ _ _ _ _ <| @r_max _ _ _ _ _ _ _ _ _ _ _ _ _ _ _ Z hh fun t s Z => ?_) (by rfl) (by rfl) (by decide) (by decide)) (by rfl) (by rfl) (by decide) (by decide)) (by rfl)) (by rfl)) (by rfl) (by rfl)) (by rfl) (by rfl) (by rfl) (by rfl) (by decide)) (by rfl)
    rw [show max (0 : Int) ((c : Int) - ((1 + i : Nat) : Int)) = ((c - (1 + i) : Nat) : Int) by lia]
    refine @stl _ _ _ _ _ _ _ _ _ _ _ Z _ (fun s Z => ?_) (by rfl) (by rfl) (by rfl)
    refine @wpAny_execs_cons _ _ _ _ _ _ _ _ <| @wpAny_Assign_Name _ _ _ _ _ _ _ _ _ _ ( @c_call _ _ _ _ _ _ _ _ _ _ <| @ldb _ _ _ _ _ _ _ _ _ _ _ _ Z _ rfl ( @c_blt _ _ _ _ _ _ _ _ _ _ ( @a_cons _ _ _ _ _ _ _ _ _ ( @ld _ _ _ _ _ _ _ _ _ _ _ _ Z _ m2 ( @a_cons _ _ _ _ _ _ _ _ _ ( @wpAny_BinOp _ _ _ _ _ _ _ _ _ _ <| @c_call _ _ _ _ _ _ _ _ _ _ <| @ldb _ _ _ _ _ _ _ _ _ _ _ _ Z _ rfl ( @c_blt _ _ _ _ _ _ _ _ _ _ ( @a_cons _ _ _ _ _ _ _ _ _ ( @ld _ _ _ _ _ _ _ _ _ _ _ _ Z _ m1 ( @args_nil _ _ _ _ _ _ _ <| @len_str _ _ _ _ _ _ _ _ (by lia) <| @ld _ _ _ _ _ _ _ _ _ _ _ _ Z.tok _ rfl ( n_sub (a := x.length) (by lia) Z.tok fun t s Z => @args_nil _ _ _ _ _ _ _ <| @r_min _ _ _ _ _ _ _ _ _ _ _ _ _ _ _ Z hh fun t s Z => ?_) (by rfl) (by rfl) (by decide) (by decide)) (by rfl) (by rfl) (by decide) (by decide)) (by rfl)) (by rfl) (by rfl)) (by rfl) (by rfl) (by rfl) (by rfl) (by decide)) (by rfl)) (by rfl) (by rfl) (by decide) (by decide)) (by rfl)) (by rfl) (by rfl)) (by rfl) (by rfl) (by rfl) (by rfl) (by decide)) (by rfl)
    rw [show min (c : Int) ((x.length - (1 + i) : Nat) : Int) = ((min c (x.length - (1 + i)) : Nat) : Int) by omega]
    refine @stl _ _ _ _ _ _ _ _ _ _ _ Z _ (fun s Z => ?_) (by rfl) (by rfl) (by rfl)
    have hpl := sub_len (x := x) (a := c - (1 + i)) (b := min c (x.length - (1 + i)))
    refine @wpAny_execs_cons _ _ _ _ _ _ _ _ <| @wpAny_Assign_Name _ _ _ _ _ _ _ _ _ _ ( @Subscript_ _ _ _ _ _ _ _ _ _ <| @ld _ _ _ _ _ _ _ _ _ _ _ _ Z _ m1 ( @wpAny_Slice _ _ _ _ _ _ _ _ _ _ <| @wpAny_evalPart_some _ _ _ _ _ _ _ <| @ld _ _ _ _ _ _ _ _ _ _ _ _ Z _ rfl ( @wpAny_evalPart_some _ _ _ _ _ _ _ <| @ld _ _ _ _ _ _ _ _ _ _ _ _ Z _ rfl ( @wpAny_evalPart_none _ _ _ _ _ _ <| @sl_sub _ _ _ _ _ _ _ _ _ _ _ _ _ _ _ _ _ _ _ Z (by unfold sizeLine; lia) (fun t s Z => ?_) (by with_unfolding_all rfl)) (by rfl) (by rfl) (by decide) (by decide)) (by rfl) (by rfl) (by decide) (by decide)) (by rfl) (by rfl) (by decide) (by decide)) (by rfl)
    refine @stl _ _ _ _ _ _ _ _ _ _ _ Z _ (fun s Z => ?_) (by rfl) (by rfl) (by rfl)
    refine @wpAny_execs_cons _ _ _ _ _ _ _ _ <| @wpAny_If _ _ _ _ _ _ _ _ _ _ <| @wpAny_isTrue_Compare1 _ _ _ _ _ _ _ _ _ _ _ ( @c_call _ _ _ _ _ _ _ _ _ _ <| @ldg _ _ _ _ _ _ _ _ _ _ _ _ Z _ rfl ( r_callfn (i := 0) ?_) (by rfl) (by rfl) (by rfl) (by decide)) (by with_unfolding_all rfl)
    refine @a_cons _ _ _ _ _ _ _ _ _ ( @wpAny_BinOp _ _ _ _ _ _ _ _ _ _ <| @wpAny_BinOp _ _ _ _ _ _ _ _ _ _ <| @ld _ _ _ _ _ _ _ _ _ _ _ _ Z _ rfl ( @k_str _ _ _ _ _ _ _ _ _ _ _ _ _ _ Z fun t s Z => @r_sadd _ _ _ _ _ _ _ _ _ _ _ _ _ _ _ Z (by rw [show Str.length (_ : Str) = 3 from dots_len]; unfold sizeLine; lia) fun t s Z => @ld _ _ _ _ _ _ _ _ _ _ _ _ Z _ rfl ( @r_sadd _ _ _ _ _ _ _ _ _ _ _ _ _ _ _ Z (by rw [Str.length_append, show Str.length (Str.ofString "...") = 3 from dots_len]; unfold sizeLine; lia) fun t s Z => ?_) (by rfl) (by rfl) (by decide) (by decide)) (by rfl) (by rfl) (by decide) (by decide)) (by rfl)
    refine @a_cons _ _ _ _ _ _ _ _ _ ( @Subscript_ _ _ _ _ _ _ _ _ _ <| @ld _ _ _ _ _ _ _ _ _ _ _ _ Z _ m1 ( @wpAny_Slice _ _ _ _ _ _ _ _ _ _ <| @wpAny_evalPart_some _ _ _ _ _ _ _ <| @ld _ _ _ _ _ _ _ _ _ _ _ _ Z _ rfl ( @wpAny_evalPart_some _ _ _ _ _ _ _ <| @wpAny_BinOp _ _ _ _ _ _ _ _ _ _ <| @ld _ _ _ _ _ _ _ _ _ _ _ _ Z _ rfl ( @ld _ _ _ _ _ _ _ _ _ _ _ _ Z _ rfl ( @n_add _ _ _ _ _ _ _ _ _ _ _ _ _ _ _ Z fun t s Z => @wpAny_evalPart_none _ _ _ _ _ _ <| @sl_sub _ _ _ _ _ _ _ _ _ _ _ _ _ _ _ _ _ _ _ Z (by unfold sizeLine; omega) (fun t s Z => @args_nil _ _ _ _ _ _ _ ⟨(Z.g.fn 0 (by decide)).1, ?_⟩) (by with_unfolding_all rfl)) (by rfl) (by rfl) (by decide) (by decide)) (by rfl) (by rfl) (by decide) (by decide)) (by rfl) (by rfl) (by decide) (by decide)) (by rfl) (by rfl) (by decide) (by decide)) (by rfl)
    have ok := twice_ok (sub_dotless (a := c - (1 + i)) (b := min c (x.length - (1 + i))) hd) (by lia)
    refine @s_ell _ _ _ _ _ _ _ _ _ Z.g (by show A.depth + 1 < _; lia) hh ok.1 (by have := sub_len (x := x) (a := c - (1 + i)) (b := min c (x.length - (1 + i)) + (1 + i)); lia) ok.2 fun s' l => ?_
    have Z := Z.later l
    refine @wpAny_Constant_bool _ _ _ _ _ _ _ _ _ <| @is_bool _ _ _ _ _ _ _ <| @wpAny_truthy_bool _ _ _ _ _ _ ?_
    have hfind : (List.range' 1 (i + 1)).find? (rdAt x c) = if rdAt x c (1 + i) then some (1 + i) else none := by
      rw [List.range'_1_concat, List.find?_append, k]
      simp only [Option.none_or, List.find?_cons, List.find?_nil]
      cases rdAt x c (1 + i) <;> rfl
    cases hr : rdAt x c (1 + i) with
    | true =>
      rw [if_pos (by show (rdAt x c (1 + i) == true) = true; rw [hr]; rfl)]
      refine @wpAny_execs_cons _ _ _ _ _ _ _ _ <| @wpAny_Return_some _ _ _ _ _ _ _ _ <| @ld _ _ _ _ _ _ _ _ _ _ _ _ Z _ rfl (?_) (by rfl) (by rfl) (by decide) (by decide)
      have e : roundL x c = 1 + i := by
        unfold roundL
        rw [show x.length = i + 1 + (x.length - (i + 1)) by (clear room hx hc hpl; omega), ← List.range'_append_1, List.find?_append, hfind, hr]; rfl
      rw [e] at h
      exact h _ _ Z.done
    | false =>
      rw [if_neg (by show ¬ (rdAt x c (1 + i) == true) = true; rw [hr]; decide)]
      refine @wpAny_execs_nil _ _ _ _ _ _ <| @wpAny_execs_nil _ _ _ _ _ _ ⟨_, _, _, Z, m1, m2, by rw [hfind, hr]; rfl⟩
  · rintro m mus news s ⟨m1, m2, k⟩ Z
    rw [hadd] at k
    refine @wpAny_execs_cons _ _ _ _ _ _ _ _ <| @wpAny_Return_some _ _ _ _ _ _ _ _ <| @k_int _ _ _ _ _ _ _ _ _ _ _ _ _ _ Z fun t s Z => ?_
    have := h s t Z.done
    unfold roundL at this
    rw [k] at this
    exact this
end
end Mine
namespace Mine
open PySem PySem.W PySem.Calls PyProof.Rows PySem.SeqAt
open AutoSeq1 (wpAny_loadPart')
open MeetsSeq MeetsSeq2 MeetsSeq3 SeqRoads2
noncomputable def gtL : List Int → List Int → Bool
  | [], _ => false
  | _ :: _, [] => true
  | x :: xs, y :: ys => if x = y then gtL xs ys else decide (x > y)
theorem gt_loopAt (l b : Addr) (items items2 : Array Value) (n n2 : Nat) (dd dd2 : Option Addr) (sl sl2 : Array (Option Value)) (xs ys : List Int) (hx : IntsAre items.toList xs) (hy : IntsAre items2.toList ys) (k : Nat) :
    ∀ i : Nat, items.size - i = k → i ≤ items.size → i ≤ items2.size → Meets (Builtin.«list.__eq__.loop» ⟨[.ref l, .ref b, rawInt i, rawInt 4], []⟩)
      (fun A R s => s.heap.get? l = some { cls := .type "list", dict := dd, data := .seq items n, slots := sl } ∧ s.heap.get? b = some { cls := .type "list", dict := dd2, data := .seq items2 n2, slots := sl2 } ∧
        R (.ok (.ret (.bool (gtL (xs.drop i) (ys.drop i))))) s) := by
  have lx : xs.length = items.size := by rw [← hx.length, Array.length_toList]
  have ly : ys.length = items2.size := by rw [← hy.length, Array.length_toList]
  induction k with
  | zero =>
    intro i hk hi1 hi2 prog w A R s h
    obtain ⟨hp, g, d, tk, os⟩ := s; obtain ⟨hl, hb, h⟩ := h
    wp_walk using wpAny_loadPart' hl, wpAny_loadPart' hb
    have hn : items[((i : Nat) : Int).toNat]? = none := by simp; lia
    rw [hn]
    wp_walk using wpAny_loadPart' hl, wpAny_loadPart' hb
    have hd : xs.drop i = [] := List.drop_of_length_le (by lia)
    rw [hd] at h
    show R (.ok (.ret (.bool (decide (items.size > items2.size))))) _
    rw [show decide (items.size > items2.size) = false by simp; lia]
    exact h
  | succ k ih =>
    intro i hk hi1 hi2 prog w A R s h
    obtain ⟨hp, g, d, tk, os⟩ := s; obtain ⟨hl, hb, h⟩ := h
    have hlt : i < items.size := by (clear lx ly hi2; omega)
    have e1 : items[((i : Nat) : Int).toNat]? = some items[i] := by simp [hlt]
    have dx : xs.drop i = xs[i]'(by (clear ly hk hi1 hi2; lia)) :: xs.drop (i + 1) := List.drop_eq_getElem_cons (by omega)
    wp_walk using wpAny_loadPart' hl, wpAny_loadPart' hb
    rcases Nat.lt_or_eq_of_le hi2 with hlt2 | rfl
    · have e2 : items2[((i : Nat) : Int).toNat]? = some items2[i] := by simp [hlt2]
      have dy : ys.drop i = ys[i]'(by lia) :: ys.drop (i + 1) := List.drop_eq_getElem_cons (by omega)
      rw [e1, e2]
      obtain ⟨t, ex⟩ := ints_at hx (k := i) (by omega)
      obtain ⟨u, ey⟩ := ints_at hy (k := i) (by omega)
      rw [Array.toArray_toList, Array.getElem?_eq_getElem hlt] at ex
      rw [Array.toArray_toList, Array.getElem?_eq_getElem hlt2] at ey
      have ex := Option.some.inj ex
      have ey := Option.some.inj ey
      rw [List.getD_eq_getElem?_getD, List.getElem?_eq_getElem (by omega), Option.getD_some] at ex ey
      rw [dx, dy] at h
      generalize xs[i]'(by omega) = a at ex h
      generalize ys[i]'(by omega) = c at ey h
      rw [ex, ey]
      refine @wpAny_bind _ _ _ _ _ _ _ _ _ (EqGives.int a c t u prog w _ _ _ _ ?_)
      have hc : ((i : Int) + 1) = ((i + 1 : Nat) : Int) := by push_cast; rfl
      by_cases hac : a = c
      · rw [show (a == c) = true by simpa using hac]
        have h : R (.ok (.ret (.bool (gtL (xs.drop (i + 1)) (ys.drop (i + 1)))))) ⟨hp, g, d, tk, os⟩ := by
          unfold gtL at h; rw [if_pos hac] at h; exact h
        wp_walk
        rw [hc]
        exact ⟨plainId_quiet plain_eq_loop _, codeAny_builtin entry_eq_loop (by
          rw [Around.under_plainId plain_eq_loop _]
          exact ih (i + 1) (by lia) (by lia) (by lia) prog w A R _ ⟨hl, hb, h⟩)⟩
      · rw [show (a == c) = false by simpa using hac]
        have h : R (.ok (.ret (.bool (decide (a > c))))) ⟨hp, g, d, tk, os⟩ := by
          unfold gtL at h; rw [if_neg hac] at h; exact h
        wp_walk using wpAny_loadPart' hl, wpAny_loadPart' hb
        rw [e1, e2]
        rw [ex, ey]
        show wpAny _ _ (richCompare .Gt (.int a t) (.int c u) >>= fun r => ret r) _ _ _
        refine @wpAny_bind _ _ _ _ _ _ _ _ _ (richCompare_gives (op := .Gt) (typeIs_int _ a t) (typeIs_int _ c u) PySem.F.slot_int_gt PySem.F.entry_int_gt (PySem.F.args_int_gt_2 _ _) (gives_int_gt _ _ t u) (fun x => nomatch x) ?_)
        exact @wpAny_pure _ _ _ _ _ _ _ h
    · have e2 : items2[((items2.size : Nat) : Int).toNat]? = none := by simp
      rw [e1, e2]
      wp_walk using wpAny_loadPart' hl, wpAny_loadPart' hb
      have dy : ys.drop items2.size = [] := List.drop_of_length_le (by lia)
      rw [dx, dy] at h
      show R (.ok (.ret (.bool (decide (items.size > items2.size))))) _
      rw [show decide (items.size > items2.size) = true by simp; lia]
      exact h
theorem list_gtAt (l b : Addr) (items items2 : Array Value) (n n2 : Nat) (dd dd2 : Option Addr) (sl sl2 : Array (Option Value)) (xs ys : List Int) (hx : IntsAre items.toList xs) (hy : IntsAre items2.toList ys) :
    Meets (Builtin.«list.__gt__» ⟨[.ref l, .ref b], []⟩)
      (fun A R s => s.heap.get? l = some { cls := .type "list", dict := dd, data := .seq items n, slots := sl } ∧ s.heap.get? b = some { cls := .type "list", dict := dd2, data := .seq items2 n2, slots := sl2 } ∧
        R (.ok (.ret (.bool (gtL xs ys)))) s) := by
  intro prog w A R s h
  obtain ⟨hp, g, d, tk, os⟩ := s; obtain ⟨hl, hb, h⟩ := h
  have f3 := AutoSeq1.sub_list_list
  wp_walk using wpAny_loadPart' hl, wpAny_loadPart' hb
  exact ⟨plainId_quiet plain_eq_loop _, codeAny_builtin entry_eq_loop (by
    rw [Around.under_plainId plain_eq_loop _]
    exact gt_loopAt l b items items2 n n2 dd dd2 sl sl2 xs ys hx hy _ 0 rfl (Nat.zero_le _) (Nat.zero_le _) prog w A R _ ⟨hl, hb, by simpa using h⟩)⟩
section
variable {prog : Program} {w : World} {A : Around} {E : Value → Shared → Prop} {s : Shared}
theorem gt_lists {l b : Addr} {items items2 : Array Value} {xs ys : List Int} {Q : Value → Shared → Prop} (hl : s.heap.IsList l items) (hb : s.heap.IsList b items2) (hx : IntsAre items.toList xs) (hy : IntsAre items2.toList ys) (hu : A.units < cLine)
    (h : Q (.bool (gtL xs ys)) s) : wpAny (model prog w) A (richCompare .Gt (.ref l) (.ref b)) Q E s := by
  obtain ⟨⟨cls, dd, data, sl⟩, ho, hc, n, hd⟩ := id hl
  obtain ⟨⟨cls2, dd2, data2, sl2⟩, ho2, hc2, n2, hd2⟩ := id hb
  simp only at hc hd hc2 hd2
  subst hc hd hc2 hd2
  exact richCompare_meets_room (op := .Gt) ⟨_, ho, rfl⟩ ⟨_, ho2, rfl⟩ PySem.F.slot_list_gt PySem.F.entry_list_gt (PySem.F.args_list_gt_2 _ _) (list_gtAt l b items items2 n n2 dd dd2 sl sl2 xs ys hx hy)
    ⟨ho, ho2, show Value.bool (gtL xs ys) ≠ Value.notImplemented ∧ Q (.bool (gtL xs ys)) s from ⟨(fun x => nomatch x), h⟩⟩ hu
end
section
variable {w : World} {A : Around} {R : Result → Shared → Prop} {I D : Addr} {fp : List Addr} {n : Nat} {P : Nat → Value → Prop} {X : Nat → Heap → Prop} {J : Heap → Prop} {gt : Nat → Nat → Bool}
/-- the place of the best of the first k + 1 -/
noncomputable def best (gt : Nat → Nat → Bool) (k : Nat) : Nat := (List.range k).foldl (fun q j => if gt (j + 1) q then j + 1 else q) 0
theorem best_succ {k : Nat} : best gt (k + 1) = if gt (k + 1) (best gt k) then k + 1 else best gt k := by
  unfold best; rw [List.range_succ, List.foldl_append]; rfl
/-- max.loop, where what is compared lies on the heap (J) -/
theorem max_turns (W : Walks P31 w A.in1 I fp [I] n P X) (hJ : ∀ h h', J h → (∀ b o, b ≠ I → b ≠ D → h.get? b = some o → h'.get? b = some o) → J h')
    (hgt : ∀ i j v u (s : Shared) (Q : Value → Shared → Prop) (E : Value → Shared → Prop), J s.heap → P i v → P j u → Q (.bool (gt i j)) s → wpAny (model P31 w) A.in1 (richCompare .Gt v u) Q E s) (hD : D ∉ fp) (hDI : D ≠ I)
    (left : Nat) : ∀ (j : Nat) (s : Shared) (v : Value) (c : Nat), j + 1 + left = n → X (j + 1) s.heap → J s.heap → P (best gt j) v → s.heap.get? D = some (lstO #[v, v] c) →
      (∀ v h' t, P (best gt (n - 1)) v → (∀ b o, b ≠ I → b ≠ D → s.heap.get? b = some o → h'.get? b = some o) → R (.ok (.ret v)) { s with heap := h', toks := t }) →
      codeAny (model P31 w) A (.builtin "max.loop" ⟨[.ref I, .none, .ref D], []⟩) R s := by
  have nm : (toString "max" ++ toString ".loop" : String) = "max.loop" := by decide
  have notI : ∀ b : Addr, b ≠ I → b ∉ [I] := fun b h => by simpa using h
  induction left with
  | zero =>
    intro j s v c hn hX hj hv hl hR
    refine codeAny_builtin PySem.F.entry_max_loop ?_
    rw [Around.under_plainId PySem.F.plain_max_loop _]
    show wpAny _ A.in1 (seqItems? (.ref D) >>= _) _ _ s
    refine @wpAny_bind _ _ _ _ _ _ _ _ _ (@wpAny_seqItems _ _ _ _ _ _ _ _ _ hl rfl ?_)
    show wpAny _ A.in1 (tryCatch (pyNext (.ref I)) _ >>= _) _ _ s
    refine @wpAny_bind _ _ _ _ _ _ _ _ _ (@wpAny_tryCatch _ _ _ _ _ _ _ _ (W.done s _ _ (by rw [← hn]; exact hX) fun h' t k => ?_))
    show wpAny _ A.in1 (updateSeq D (fun _ => #[]) >>= _) _ _ _
    refine @wpAny_bind _ _ _ _ _ _ _ _ _ (@wpAny_updateSeq _ _ _ _ _ _ _ _ _ _ (k _ _ (notI _ hDI) hl) rfl ((@wpAny_bind _ _ _ _ _ _ _ _ _ (@wpAny_letGo _ _ _ _ _ _ _ (@wpAny_pure _ _ _ _ _ _ _ ?_)))) (by size_fits) (by seq_fits))
    exact hR v _ t (by rw [← hn]; exact hv) fun b o h1 h2 e => (Heap.get?_update_other _ _ (Ne.symm h2)).trans (k b o (notI _ h1) e)
  | succ left ih =>
    intro j s v c hn hX hj hv hl hR
    refine codeAny_builtin PySem.F.entry_max_loop ?_
    rw [Around.under_plainId PySem.F.plain_max_loop _]
    show wpAny _ A.in1 (seqItems? (.ref D) >>= _) _ _ s
    refine @wpAny_bind _ _ _ _ _ _ _ _ _ (@wpAny_seqItems _ _ _ _ _ _ _ _ _ hl rfl ?_)
    show wpAny _ A.in1 (tryCatch (pyNext (.ref I)) _ >>= _) _ _ s
    refine @wpAny_bind _ _ _ _ _ _ _ _ _ (@wpAny_tryCatch _ _ _ _ _ _ _ _ (W.item (j + 1) s _ _ (by lia) hX fun u h' t hu hX' k => ?_))
    have hl' := k _ _ (notI _ hDI) hl
    have hj' : J h' := hJ _ _ hj fun b o h1 _ e => k b o (notI _ h1) e
    show wpAny _ A.in1 (tryCatch (holding [u, u] (richCompare .Gt u v >>= _)) _ >>= _) _ _ _
    refine @wpAny_bind _ _ _ _ _ _ _ _ _ (@wpAny_tryCatch _ _ _ _ _ _ _ _ (@wpAny_holding _ _ _ _ _ _ _ _ (@wpAny_bind _ _ _ _ _ _ _ _ _ (hgt (j + 1) (best gt j) u v _ _ _ hj' hu hv ?_))))
    refine @wpAny_bind _ _ _ _ _ _ _ _ _ (@wpAny_holding _ _ _ _ _ _ _ _ (@wpAny_truthy_bool _ _ _ _ _ _ ?_))
    refine @wpAny_bind _ _ _ _ _ _ _ _ _ (@wpAny_letGo _ _ _ _ _ _ _ (@wpAny_pure _ _ _ _ _ _ _ ?_))
    cases hb : gt (j + 1) (best gt j) with
    | true =>
      simp only [if_true]
      refine @wpAny_bind _ _ _ _ _ _ _ _ _ (@wpAny_updateSeq _ _ _ _ _ _ _ _ _ _ hl' rfl ((@wpAny_bind _ _ _ _ _ _ _ _ _ (@wpAny_letGo _ _ _ _ _ _ _ ?_))) (by size_fits) (by seq_fits))
      rw [nm]
      have kp : ∀ b o, b ≠ D → h'.get? b = some o → (h'.update D (Obj.mapSeq fun _ => #[u, u])).get? b = some o := fun b o h2 e => (Heap.get?_update_other _ _ (Ne.symm h2)).trans e
      refine @wpAny_pure _ _ _ _ _ _ _ ⟨plainId_quiet PySem.F.plain_max_loop _, ih (j + 1) _ u _ (by lia) (W.frame _ _ _ hX' fun b hb o e => kp b o (fun q => hD (q ▸ hb)) e) (hJ _ _ hj' fun b o _ h2 e => kp b o h2 e)
        (by rw [best_succ, hb]; exact hu) (Heap.get?_update_self _ hl' rfl) fun v' h'' t' h1 h2 => ?_⟩
      exact hR v' h'' t' h1 fun b o q1 q2 e => h2 b o q1 q2 (kp b o q2 (k b o (notI _ q1) e))
    | false =>
      simp only [Bool.false_eq_true, if_false]
      refine @wpAny_bind _ _ _ _ _ _ _ _ _ (@wpAny_letGo _ _ _ _ _ _ _ ?_)
      rw [nm]
      refine @wpAny_pure _ _ _ _ _ _ _ ⟨plainId_quiet PySem.F.plain_max_loop _, ih (j + 1) _ v c (by omega) hX' hj' (by rw [best_succ, hb]; exact hv) hl' fun v' h'' t' h1 h2 => ?_⟩
      exact hR v' h'' t' h1 fun b o q1 q2 e => h2 b o q1 q2 (k b o (notI _ q1) e)
end
section
variable {w : World} {T : Tops} {s₀ s : Shared} {env : Env} {m : Str → Option Value} {mus news : List (Addr × Obj)} {A : Around} {E : Value → Shared → Prop} {Q : Value → Shared → Prop}
/-- the lists of ints that vs name, all standing -/
noncomputable def Rows (h : Heap) (vs : List Value) (rows : List (List Int)) : Prop := vs.length = rows.length ∧ ∀ (i : Nat) (r : List Int), rows[i]? = some r → ∃ (a : Addr) (o : Obj) (us : Array Value), vs[i]? = some (Value.ref a) ∧ h.get? a = some o ∧ IsL o us ∧ IntsAre us.toList r
theorem max_rows {l : Addr} {lo : Obj} {vs : List Value} {rows : List (List Int)} (Z : St w T s₀ env m mus news s) (hh : A.handled = none) (hu : A.units + 1 < cLine) (hl : s.heap.get? l = some lo) (hlo : IsL lo vs.toArray) (hr : Rows s.heap vs rows) (hne : 0 < rows.length)
    (h : ∀ v s, St w T s₀ env m mus news s → vs[best (fun i j => gtL (rows.getD i []) (rows.getD j [])) (rows.length - 1)]? = some v → Q v s) : wpAny (model P31 w) A (call (.builtin "max") [.ref l]) Q E s := by
  have nm : (toString "max" ++ toString ".loop" : String) = "max.loop" := by decide
  refine @call_function_tree _ _ _ _ _ _ _ _ _ PySem.F.kind_max PySem.F.plain_max PySem.F.entry_max (PySem.F.args_max1 _) ?_
  show wpAny _ A.in1 (Builtin.Builtins.bindParams "max" ["key", "default"] 0 ⟨[], []⟩ >>= _) _ _ s
  refine @wpAny_bind _ _ _ _ _ _ _ _ _ (@wpAny_of_eq _ _ _ _ _ _ _ _ (show Builtin.Builtins.bindParams "max" ["key", "default"] 0 ⟨[], []⟩ = pure [none, none] from rfl) ?_)
  refine @wpAny_bind _ _ _ _ _ _ _ _ _ (@wpAny_pure _ _ _ _ _ _ _ ?_)
  refine @wpAny_bind _ _ _ _ _ _ _ _ _ (@wpAny_pyIter_list _ _ _ _ _ _ _ _ (hlo.list hl) ?_)
  have Z1 := Z.pushM { cls := .type "list_iterator", data := .fields #[.ref l, .int 0 0] } iter_mu (t := s.toks)
  refine @wpAny_bind _ _ _ _ _ _ _ _ _ (@wpAny_newObj_type _ _ _ _ _ _ _ _ (?_) (by size_fits))
  rw [nm]
  obtain ⟨H, hH⟩ := hide_eq (s.heap.push { cls := .type "list_iterator", data := .fields #[.ref l, .int 0 0] })
  rw [hH] at Z1 ⊢
  have hHs : H.objs.size = s.heap.objs.size + 1 := by rw [← hH, Heap.size_push]
  have kH : ∀ b o, s.heap.get? b = some o → H.get? b = some o := fun b o e => by rw [← hH]; exact Heap.get?_push_of_some _ e
  have lt : ∀ b o, s.heap.get? b = some o → b ≠ s.heap.objs.size ∧ b ≠ H.objs.size := fun b o e => by
    have := Heap.lt_size e
    exact ⟨Nat.ne_of_lt this, Nat.ne_of_lt (by rw [hHs]; exact Nat.lt_succ_of_lt this)⟩
  have hne' : l ≠ s.heap.objs.size := (lt _ _ hl).1
  have W := Walks.list (prog := P31) (w := w) (A := A.in1) (show A.in1.handled = none from hh) s.heap.objs.size l hne' vs.toArray
  have hDI : H.objs.size ≠ s.heap.objs.size := by lia
  have hDf : H.objs.size ∉ [s.heap.objs.size, l] := fun hm => by
    rcases List.mem_cons.mp hm with e | hm
    · exact hDI e
    · exact (lt _ _ hl).2 (List.mem_singleton.mp hm).symm
  obtain ⟨hsz, hrow⟩ := hr
  have J0 : ∀ h : Heap, (∀ b o, s.heap.get? b = some o → h.get? b = some o) → ∀ i j v u (s' : Shared) (Q : Value → Shared → Prop) (E : Value → Shared → Prop), s'.heap = h → vs.toArray[i]? = some v → vs.toArray[j]? = some u →
      Q (.bool (gtL (rows.getD i []) (rows.getD j []))) s' → wpAny (model P31 w) A.in1 (richCompare .Gt v u) Q E s' := fun h kp i j v u s' Q E hs' hv hu' hQ => by
    have row : ∀ i v, vs.toArray[i]? = some v → ∃ a o us, v = .ref a ∧ h.get? a = some o ∧ IsL o us ∧ IntsAre us.toList (rows.getD i []) := fun i v hv => by
      have hv : vs[i]? = some v := by simpa using hv
      have hi : i < rows.length := by rw [← hsz]; exact (List.getElem?_eq_some_iff.mp hv).1
      obtain ⟨a, o, us, e1, e2, e3, e4⟩ := hrow i _ (List.getElem?_eq_getElem hi)
      rw [hv] at e1
      refine ⟨a, o, us, Option.some.inj e1, kp _ _ e2, e3, ?_⟩
      rw [List.getD_eq_getElem?_getD, List.getElem?_eq_getElem hi]; exact e4
    obtain ⟨a, o, us, rfl, e2, e3, e4⟩ := row i v hv
    obtain ⟨a', o', us', rfl, e2', e3', e4'⟩ := row j u hu'
    exact @gt_lists _ _ _ _ _ _ _ _ _ _ _ _ (e3.list (by rw [hs']; exact e2)) (e3'.list (by rw [hs']; exact e2')) e4 e4' hu hQ
  refine @wpAny_pure _ _ _ _ _ _ _ ⟨plainId_quiet PySem.F.plain_max_loop _, ?_⟩
  refine codeAny_builtin PySem.F.entry_max_loop ?_
  rw [Around.under_plainId PySem.F.plain_max_loop _]
  show wpAny _ A.in1 (seqItems? (.ref H.objs.size) >>= _) _ _ _
  have hD : (H.push (lstO #[] 0)).get? H.objs.size = some (lstO #[] 0) := Heap.get?_push_size _ rfl
  refine @wpAny_bind _ _ _ _ _ _ _ _ _ (@wpAny_seqItems _ _ _ _ _ _ _ _ _ hD rfl ?_)
  show wpAny _ A.in1 (tryCatch (pyNext (.ref s.heap.objs.size)) _ >>= _) _ _ _
  have hX0 : (H.push (lstO #[] 0)).IsListIter s.heap.objs.size l 0 ∧ (H.push (lstO #[] 0)).IsList l vs.toArray := by
    refine ⟨⟨_, Heap.get?_push_of_some _ (by rw [← hH]; exact Heap.get?_push_size _ rfl), rfl, rfl⟩, ((hlo.list (kH _ _ hl))).push _⟩
  refine @wpAny_bind _ _ _ _ _ _ _ _ _ (@wpAny_tryCatch _ _ _ _ _ _ _ _ (W.item 0 _ _ _ (by simp; lia) hX0 fun u h1 t1 hu1 hX1 k1 => ?_))
  have notI : ∀ b : Addr, b ≠ s.heap.objs.size → b ∉ [s.heap.objs.size] := fun b h => by simpa using h
  have hD1 := k1 _ _ (notI _ hDI) hD
  show wpAny _ A.in1 (updateSeq H.objs.size (fun _ => #[u, u]) >>= _) _ _ _
  refine @wpAny_bind _ _ _ _ _ _ _ _ _ (@wpAny_updateSeq _ _ _ _ _ _ _ _ _ _ hD1 rfl (?_) (by size_fits) (by seq_fits))
  rw [nm]
  have kp : ∀ b o, b ≠ H.objs.size → h1.get? b = some o → (h1.update H.objs.size (Obj.mapSeq fun _ => #[u, u])).get? b = some o := fun b o h2 e => (Heap.get?_update_other _ _ (Ne.symm h2)).trans e
  have k2 : ∀ b o, s.heap.get? b = some o → (h1.update H.objs.size (Obj.mapSeq fun _ => #[u, u])).get? b = some o := fun b o e => kp b o (lt _ _ e).2 (k1 b o (notI _ (lt _ _ e).1) (Heap.get?_push_of_some _ (kH _ _ e)))
  refine @wpAny_pure _ _ _ _ _ _ _ ⟨plainId_quiet PySem.F.plain_max_loop _, max_turns (gt := fun i j => gtL (rows.getD i []) (rows.getD j [])) W (J := fun h => ∀ b o, s.heap.get? b = some o → h.get? b = some o) (fun h h' hj hk b o e => hk b o (lt _ _ e).1 (lt _ _ e).2 (hj b o e))
    (fun i j v u s' Q E hj => J0 s'.heap hj i j v u s' Q E rfl) hDf hDI (rows.length - 1) 0 _ u _ (by simp; lia) (W.frame _ _ _ hX1 fun b hb o e => kp b o (fun q => hDf (q ▸ hb)) e) k2 hu1 (Heap.get?_update_self _ hD1 rfl) fun v h' t hv hk => ?_⟩
  refine h v _ (Z.later (.of_keep (t := t) Z.g fun b o e => hk b o (lt _ _ e).1 (lt _ _ e).2 (k2 b o e))) ?_
  have hv : vs[best (fun i j => gtL (rows.getD i []) (rows.getD j [])) (vs.toArray.size - 1)]? = some v := by simpa using hv
  rw [← hsz]
  simpa using hv
end
end Mine
namespace Mine
open PySem PySem.W PySem.Calls PyProof.Rows PySem.SeqAt
open MeetsSeq
theorem all_range_eq : ∀ {xs ys : List Int}, xs.length = ys.length → (List.range xs.length).all (fun j => xs.getD j 0 == ys.getD j 0) = (xs == ys)
  | xs, ys, h => by
    rw [Bool.eq_iff_iff, List.all_eq_true, beq_iff_eq]
    constructor
    · intro e
      refine List.ext_getElem h fun j h1 h2 => ?_
      have := e j (List.mem_range.mpr h1)
      rw [beq_iff_eq, List.getD_eq_getElem?_getD, List.getD_eq_getElem?_getD, List.getElem?_eq_getElem h1, List.getElem?_eq_getElem h2] at this
      exact this
    · rintro rfl j _
      exact beq_self_eq_true _
section
variable {w : World} {T : Tops} {s₀ s : Shared} {env : Env} {m : Str → Option Value} {mus news : List (Addr × Obj)} {A : Around} {E : Value → Shared → Prop} {Q : Value → Shared → Prop}
theorem r_sum {l : Addr} {lo : Obj} {vs : List Value} {ns : List Int} (Z : St w T s₀ env m mus news s) (hh : A.handled = none) (hl : s.heap.get? l = some lo) (hlo : IsL lo vs.toArray) (hi : IntsAre vs ns)
    (h : ∀ t s, St w T s₀ env m mus news s → Q (.int ns.sum t) s) : wpAny (model P31 w) A (call (.builtin "sum") [.ref l]) Q E s := by
  obtain ⟨hb, X, ml, F, N, K⟩ := Z.fr
  exact @PyProof.Rows.LSm.sum_ints _ _ _ _ _ _ _ _ _ _ _ _ _ F N hh (hlo.list hl) hi fun h' tk t' F' N' => h _ _ (K h' tk [] F' N' fun _ hp => absurd hp List.not_mem_nil)
theorem r_maxL {l : Addr} {lo : Obj} {vs : List Value} {ns : List Int} (Z : St w T s₀ env m mus news s) (hh : A.handled = none) (hl : s.heap.get? l = some lo) (hlo : IsL lo vs.toArray) (hi : IntsAre vs ns) (hne : 0 < ns.length)
    (h : ∀ M t s, St w T s₀ env m mus news s → M ∈ ns → (∀ a ∈ ns, a ≤ M) → Q (.int M t) s) : wpAny (model P31 w) A (call (.builtin "max") [.ref l]) Q E s := by
  obtain ⟨hb, X, ml, F, N, K⟩ := Z.fr
  exact @max_list_N _ _ _ _ _ _ _ _ _ _ _ _ _ hh F N (hlo.list hl) hi hne fun h' M t tk F' N' h1 h2 => h _ _ _ (K h' tk [] F' N' fun _ hp => absurd hp List.not_mem_nil) h1 h2
theorem r_ladd {l b : Addr} {xs ys : Array Value} {n k : Nat} (Z : St w T s₀ env m mus news s) (hl : s.heap.get? l = some (lstO xs n)) (hb : s.heap.get? b = some (lstO ys k)) (hsz : xs.size + ys.size ≤ 2 ^ 20)
    (h : ∀ d s, St w T s₀ env m mus ((d, lstO (xs ++ ys) 0) :: news) s → Q (.ref d) s) : wpAny (model P31 w) A (binaryOp .Add (.ref l) (.ref b)) Q E s :=
  @PySem.P.add_list _ _ _ _ _ _ _ _ _ _ _ _ hl hb (h _ _ (Z.join1 (.of_keep (t := s.toks) Z.g (push_keep s _)) ⟨Heap.get?_push_size _ rfl, nofun, fresh_size⟩)) (Nat.le_trans hsz (by decide))
theorem r_neInts {l b : Addr} {lo bo : Obj} {vs us : List Value} {xs ys : List Int} (Z : St w T s₀ env m mus news s) (hu : A.units < cLine) (hl : s.heap.get? l = some lo) (hlo : IsL lo vs.toArray) (hb : s.heap.get? b = some bo) (hbo : IsL bo us.toArray) (hx : IntsAre vs xs) (hy : IntsAre us ys)
    (h : Q (.bool (!(xs == ys))) s) : wpAny (model P31 w) A (compareOp .NotEq (.ref l) (.ref b)) Q E s := by
  show wpAny (model P31 w) A (richCompare .NotEq (.ref l) (.ref b)) Q E s
  have l1 := hx.length
  have l2 := hy.length
  by_cases hsz : vs.length = us.length
  · refine RcNeAt.lists (e := fun j => xs.getD j 0 == ys.getD j 0) (hlo.list hl) (hbo.list hb) (by simpa using hsz) hu (fun j h1 h2 => ?_) P31 w E Q ?_
    · obtain ⟨t, e1⟩ := ints_at hx (k := j) (by simp at h1; lia)
      obtain ⟨u, e2⟩ := ints_at hy (k := j) (by simp at h2; lia)
      rw [Array.getElem?_eq_getElem h1] at e1
      rw [Array.getElem?_eq_getElem h2] at e2
      rw [Option.some.inj e1, Option.some.inj e2]
      exact (EqGives.int _ _ t u).at _ s
    · have := all_range_eq (xs := xs) (ys := ys) (by lia)
      rw [show vs.toArray.size = xs.length by simp [l1], this]
      exact h
  · refine RcNeAt.lists_lengths (hlo.list hl) (hbo.list hb) (by simpa using hsz) hu P31 w E Q ?_
    have : (xs == ys) = false := by
      rw [beq_eq_false_iff_ne]; intro e; rw [e] at l1; lia
    rw [this] at h
    exact h
/-- the place of one of the rows in its list -/
theorem r_index {l : Addr} {vs : List Value} {rows : List (List Int)} {j n : Nat} {v : Value} (Z : St w T s₀ env m mus news s) (hu : A.units + 1 < cLine) (hl : s.heap.get? l = some (lstO vs.toArray n)) (hr : Rows s.heap vs rows)
    (hd : ∀ i k, i < k → k < rows.length → (rows.getD i []).length ≠ (rows.getD k []).length) (hv : vs[j]? = some v) (hsm : vs.length < 2 ^ 40) (h : ∀ t s, St w T s₀ env m mus news s → Q (.int (j : Nat) t) s) :
    wpAny (model P31 w) A (call (.builtin "list.index") [.ref l, v]) Q E s := by
  obtain ⟨hsz, hrow⟩ := hr
  have hj : j < vs.length := (List.getElem?_eq_some_iff.mp hv).1
  have row : ∀ i (hi : i < vs.length), ∃ a o us, vs[i] = .ref a ∧ s.heap.get? a = some o ∧ IsL o us ∧ us.size = (rows.getD i []).length := fun i hi => by
    obtain ⟨a, o, us, e1, e2, e3, e4⟩ := hrow i _ (List.getElem?_eq_getElem (by lia))
    rw [List.getElem?_eq_getElem hi] at e1
    refine ⟨a, o, us, Option.some.inj e1, e2, e3, ?_⟩
    rw [List.getD_eq_getElem?_getD, List.getElem?_eq_getElem (by omega), Option.getD_some, ← e4.length, Array.length_toList]
  have hvj : vs[j] = v := by rw [List.getElem?_eq_getElem hj] at hv; exact Option.some.inj hv
  have sizes : ∀ i k (hi : i < vs.length) (hk : k < vs.length), i ≠ k → vs[i] ≠ vs[k] := fun i k hi hk hne e => by
    obtain ⟨a, o, us, e1, e2, e3, e4⟩ := row i hi
    obtain ⟨a', o', us', e1', e2', e3', e4'⟩ := row k hk
    rw [e1, e1'] at e
    obtain rfl : a = a' := by injection e
    rw [e2] at e2'
    obtain rfl := Option.some.inj e2'
    obtain ⟨k1, q1⟩ := e3.2
    obtain ⟨k2, q2⟩ := e3'.2
    rw [q1] at q2
    obtain rfl : us = us' := by injection q2
    rcases Nat.lt_or_gt_of_ne hne with q | q
    · exact hd i k q (by lia) (by lia)
    · exact hd k i q (by lia) (by lia)
  have M := list_indexAt l vs.toArray n none #[] v (fun y => y == v) j (by simpa using hj) (by lia) (by simp [hvj]) (fun i hi hlt => by
    have hi' : i < vs.length := by simpa using hi
    show (vs.toArray[i] == v) = false
    rw [beq_eq_false_iff_ne, ← hvj]
    exact sizes i j hi' hj (by lia))
  refine PySem.call_meets PySem.F.slot_list_index (T := "list") ⟨_, hl, rfl⟩ PySem.F.entry_list_index (PySem.F.args_list_index_2 _ _) M ⟨hl, fun y hy => ?_, h _ _ Z.tok⟩
  obtain ⟨i, hi, rfl⟩ := Array.mem_iff_getElem.mp hy
  have hi' : i < vs.length := by simpa using hi
  show EqAt _ s (vs.toArray[i]) v _
  by_cases hij : i = j
  · subst hij
    have e : vs.toArray[i] = v := hvj
    rw [e, beq_self_eq_true]; exact EqAt.same v
  · have hne := sizes i j hi' hj hij
    rw [hvj] at hne
    rw [show (vs.toArray[i] == v) = false from beq_eq_false_iff_ne.mpr hne]
    obtain ⟨a, o, us, e1, e2, e3, e4⟩ := row i hi'
    obtain ⟨a', o', us', e1', e2', e3', e4'⟩ := row j hj
    rw [hvj] at e1'
    have e1 : vs.toArray[i] = .ref a := e1
    rw [e1, e1']
    refine EqAt.of_refs (fun q => hne (by rw [e1', ← q]; exact e1)) (RcAt.lists_lengths (e3.list e2) (e3'.list e2') ?_ (by exact hu))
    rw [bne_iff_ne, e4, e4']
    rcases Nat.lt_or_gt_of_ne hij with q | q
    · exact hd i j q (by lia)
    · exact (hd j i q (by lia)).symm
end
end Mine
namespace Mine
open PySem PySem.W PySem.Calls PyProof.Rows
theorem ints_snoc : ∀ {vs : List Value} {ns : List Int} {n : Int} {t : Tok}, IntsAre vs ns → IntsAre (vs ++ [.int n t]) (ns ++ [n])
  | _, _, _, _, .nil => .cons _ _ .nil
  | _, _, _, _, .cons a t r => .cons a t (ints_snoc r)
noncomputable def sufs (e : Int) (row : List Int) : List (List Int) := (List.range row.length).map fun k => (row.drop k).map (e * ·)
/-- where the greatest suffix begins -/
noncomputable def begS (e : Int) (row : List Int) : Nat := best (fun i j => gtL ((sufs e row).getD i []) ((sufs e row).getD j [])) (row.length - 1)
theorem sufs_get {e : Int} {row : List Int} {k : Nat} (h : k < row.length) : (sufs e row).getD k [] = (row.drop k).map (e * ·) := by
  unfold sufs
  rw [List.getD_eq_getElem?_getD, List.getElem?_map, List.getElem?_range h]; rfl
theorem best_le {gt : Nat → Nat → Bool} : ∀ k, best gt k ≤ k
  | 0 => Nat.le_refl _
  | k + 1 => by
    rw [best_succ]; split
    · exact Nat.le_refl _
    · have := best_le (gt := gt) k; lia
/-- what holds ahead of a turn of the loop over the two orders -/
inductive KB (row : List Int) (D rw tp : Addr) (t1 t2 : Tok) (i : Nat) (m : Str → Option Value) (mus news : List (Addr × Obj)) : Prop
  | mk (n : Nat) (bs : Array Value) (h1 : m "begins" = some (.ref D)) (h2 : m "row" = some (.ref rw)) (h3 : mus = [(D, lstO bs n)]) (h4 : (tp, tupO #[.int 1 t1, .int (-1) t2]) ∈ news) (b0 : i = 0 → bs = #[])
    (b1 : i = 1 → ∃ u1, bs = #[.int (begS 1 row : Nat) u1]) (b2 : i = 2 → ∃ u1 u2, bs = #[.int (begS 1 row : Nat) u1, .int (begS (-1) row : Nat) u2]) : KB row D rw tp t1 t2 i m mus news
section
variable {w : World} {T : Tops} {s₀ : Shared} {A : Around} {Q : Value → Shared → Prop}
theorem s_begins {rw : Addr} {ro : Obj} {vs : List Value} {row : List Int} (g : G w T s₀.heap) (room : A.depth < recursionLimit) (hh : A.handled = none) (hu : A.units + 8 < cLine) (hl : s₀.heap.get? rw = some ro) (hlo : IsL ro vs.toArray) (hi : IntsAre vs row) (hn : 0 < row.length) (hn2 : row.length ≤ 2 ^ 10)
    (h : ∀ s' d n t1 t2, Later w T s₀ s' → s'.heap.get? d = some (lstO #[.int (begS 1 row : Nat) t1, .int (begS (-1) row : Nat) t2] n) → s₀.heap.get? d = none → Q (.ref d) s') : wpAny (model P31 w) A (call (.ref (T.f 17)) [.ref rw]) Q NoE s₀ := by
  have hvl := hi.length
  refine call_fn (i := 17) (binds := [("row", .ref rw)]) (by decide) g (by lia) (by rfl) (by rfl) (by rfl) (fun s Z => ?_) (by rfl) (by rfl) (by rfl)
  refine @wp_hide _ _ _ _ _ _ _ fun Po hPo => ?_
  refine @wpAny_execs_cons _ _ _ _ _ _ _ _ <| @wpAny_Assign_Name _ _ _ _ _ _ _ _ _ _ ( @List_ _ _ _ _ _ _ _ _ <| @args_nil _ _ _ _ _ _ _ <| @r_newlistM _ _ _ _ _ _ _ _ _ _ _ _ Z (by simp) fun D s Z => @stl _ _ _ _ _ _ _ _ _ _ _ Z _ (fun s Z => ?_) (by rfl) (by rfl) (by rfl)) (by rfl)
  refine @wpAny_execs_cons _ _ _ _ _ _ _ _ <| @wpAny_For _ _ _ _ _ _ _ _ _ _ _ ( @Tuple_ _ _ _ _ _ _ _ _ _ <| @a_cons _ _ _ _ _ _ _ _ _ ( eval_lit (i := 1) rfl Z fun t1 s Z => @a_cons _ _ _ _ _ _ _ _ _ ( eval_lit (i := -1) rfl Z fun t2 s Z => @args_nil _ _ _ _ _ _ _ <| @r_tuple2 _ _ _ _ _ _ _ _ _ _ _ _ _ Z fun tp s Z => ?_) (by rfl)) (by rfl)) (by intro _; rfl)
  refine @r_iterTup _ _ _ _ _ _ _ _ _ _ _ _ _ _ Z hh (Z.get (.head _)) (fun i m mus news => KB row D rw tp t1 t2 i m mus news) ?_ ?_ ?_ (?_) (by intro _ _; rfl)
  · rintro i m mus news s ⟨_, _, _, _, _, hm, _⟩ Z
    exact Z.get hm
  · exact ⟨_, _, rfl, rfl, rfl, .head _, fun _ => rfl, nofun, nofun⟩
  · intro I i m mus news oI v s hi2 hK hv Z
    refine @turn_hide _ _ _ _ _ _ _ _ _ _ _ fun Pt hPt => @goal_hide _ fun G hG => ?_
    obtain ⟨n, bs, m1, m2, rfl, hm, b0, b1, b2⟩ := hK
    obtain ⟨e, te, rfl, he⟩ : ∃ e te, v = .int e te ∧ (e = 1 ∧ i = 0 ∨ e = -1 ∧ i = 1) := by
      have hi2 : i < 2 := hi2
      rcases (show i = 0 ∨ i = 1 by lia) with rfl | rfl
      · exact ⟨1, t1, (Option.some.inj hv).symm, .inl ⟨rfl, rfl⟩⟩
      · exact ⟨-1, t2, (Option.some.inj hv).symm, .inr ⟨rfl, rfl⟩⟩
    have hmul : ∀ x : Int, IntMulOk e x := fun x => .of_left (by rcases he with ⟨rfl, _⟩ | ⟨rfl, _⟩ <;> decide)
    refine hG ?_
    clear hG
    refine @wpAny_assign_Name _ _ _ _ _ _ _ _ _ <| @stc _ _ _ _ _ _ _ _ _ _ _ _ Z _ rfl (by lia) (fun s Z => ?_) (by rfl) (by rfl)
    refine @wpAny_execs_cons _ _ _ _ _ _ _ _ <| Assign_Comp (cl := [("turn", s₀.heap.objs.size + 2), ("row", s₀.heap.objs.size + 1)]) ?_
    refine @c_call _ _ _ _ _ _ _ _ _ _ <| @ldb _ _ _ _ _ _ _ _ _ _ _ _ Z _ rfl ( @c_typ _ _ _ _ _ _ _ _ _ _ ( @a_cons _ _ _ _ _ _ _ _ _ ( @c_call _ _ _ _ _ _ _ _ _ _ <| @ldb _ _ _ _ _ _ _ _ _ _ _ _ Z _ rfl ( @c_blt _ _ _ _ _ _ _ _ _ _ ( @a_cons _ _ _ _ _ _ _ _ _ ( @ld _ _ _ _ _ _ _ _ _ _ _ _ Z _ m2 ( @args_nil _ _ _ _ _ _ _ <| @r_lenL _ _ _ _ _ _ _ _ _ _ _ _ _ Z (hlo.list (Z.gr.keep hl hlo.cls)) (by simp; lia) fun t s Z => @args_nil _ _ _ _ _ _ _ <| @r_range1 _ _ _ _ _ _ _ _ _ _ _ _ _ Z fun R t v s Z => ?_) (by rfl) (by rfl) (by decide) (by decide)) (by rfl)) (by rfl) (by rfl)) (by rfl) (by rfl) (by rfl) (by rfl) (by decide)) (by rfl)) (by rfl) (by rfl)) (by rfl) (by rfl) (by rfl) (by rfl) (by decide)
    refine @comp_range _ _ _ _ _ _ _ _ _ _ _ _ _ _ _ _ _ _ _ _ _ _ _ _ _ Z hh (Z.get (.head _)) (by lia) (by simp; lia) (fun i ys newsI => ys.length = i ∧ ∀ j, j < i → ∃ a us n, ys[j]? = some (.ref a) ∧ (a, lstO (List.toArray us) n) ∈ newsI ∧ IntsAre us ((row.drop j).map (e * ·))) ⟨rfl, fun j hj => absurd hj (Nat.not_lt_zero _)⟩ ?_ ?_ (⟨⟨rfl, rfl⟩, ⟨rfl, rfl⟩, trivial⟩) (by rfl) (by rfl) (by rfl)
    · intro C D' k ys newsI oI nn t' s' hk hK Zc
      have hk : k < row.length := by simpa [hvl] using hk
      obtain ⟨hy1, hy2⟩ := hK
      rw [Nat.zero_add] at Zc ⊢
      refine @wpAny_tests_nil _ _ _ _ _ _ _ ?_
      rw [if_pos rfl]
      refine @wp_hide _ _ _ _ _ _ _ fun Pa hPa => ?_
      refine Comp_ (cl := [("turn", s₀.heap.objs.size + 2)]) ?_
      refine @Subscript_ _ _ _ _ _ _ _ _ _ <| @ld _ _ _ _ _ _ _ _ _ _ _ _ Zc _ m2 ( @wpAny_Slice _ _ _ _ _ _ _ _ _ _ <| @wpAny_evalPart_some _ _ _ _ _ _ _ <| @ld _ _ _ _ _ _ _ _ _ _ _ _ Zc _ rfl ( @wpAny_evalPart_none _ _ _ _ _ _ <| @wpAny_evalPart_none _ _ _ _ _ _ <| ll_from (a := k) Zc (Zc.gr.keep (Z.gr.keep hl hlo.cls) hlo.cls) hlo (by simp; lia) fun d s1 Z1 => ?_) (by rfl) (by rfl) (by decide) (by decide)) (by rfl) (by rfl) (by decide) (by decide)
      refine @comp_list _ _ _ _ _ _ _ _ _ _ _ _ _ _ _ _ _ _ _ _ _ _ Z1 hh (Z1.get (.head _)) isL_lst (by simp; lia) (fun i us _ => IntsAre us (((row.drop k).take i).map (e * ·))) .nil ?_ ?_ (⟨⟨rfl, rfl⟩, trivial⟩) (by rfl) (by rfl) (by rfl)
      · intro C2 D2 i us newsJ oJ n2 v s2 hi2 hK2 hv2 Z2
        have hi2 : i < row.length - k := by simpa [hvl] using hi2
        have hv2 : vs[k + i]? = some v := by simpa using hv2
        obtain ⟨tv, ev⟩ := ints_at hi (k := k + i) (by lia)
        rw [List.getElem?_toArray, hv2] at ev
        obtain rfl := Option.some.inj ev
        refine @wpAny_tests_nil _ _ _ _ _ _ _ ?_
        rw [if_pos rfl]
        refine @wp_hide _ _ _ _ _ _ _ fun Pb hPb => ?_
        refine @wpAny_BinOp _ _ _ _ _ _ _ _ _ _ <| @ld _ _ _ _ _ _ _ _ _ _ _ _ Z2 _ rfl ( @ld _ _ _ _ _ _ _ _ _ _ _ _ Z2 _ rfl ( @r_mul _ _ _ _ _ _ _ _ _ _ _ _ _ _ _ Z2 (hmul _) fun t s Z2 => ?_) (by rfl) (by rfl) (by decide) (by decide)) (by rfl) (by rfl) (by decide) (by decide)
        refine hPb _ _ ⟨_, Z2, ?_⟩
        have ht : ((row.drop k).take (i + 1)).map (e * ·) = ((row.drop k).take i).map (e * ·) ++ [e * row.getD (k + i) 0] := by
          rw [List.take_add_one, List.map_append, List.getElem?_drop, List.getD_eq_getElem?_getD, List.getElem?_eq_getElem (by omega)]; rfl
        show IntsAre _ (((row.drop k).take (i + 1)).map (e * ·))
        rw [ht]
        exact ints_snoc hK2
      · intro C2 D2 us n2 newsJ s2 mc hK2 Z2
        refine comp_end Z1 Z2 fun s3 Z3 => hPa _ _ ⟨_, Z3, ?_, fun j hj => ?_⟩
        · simp [hy1]
        · rcases Nat.lt_or_eq_of_le (Nat.le_of_lt_succ hj) with hj | rfl
          · obtain ⟨a, us', n', e1, e2, e3⟩ := hy2 j hj
            exact ⟨a, us', n', by rw [List.getElem?_append_left (by lia)]; exact e1, .tail _ (List.mem_append_right _ (.tail _ e2)), e3⟩
          · refine ⟨D2, us, n2, by rw [List.getElem?_append_right (by lia)]; simp [hy1], .head _, ?_⟩
            have hs : (List.drop j vs.toArray.toList).toArray.size = (row.drop j).length := by simp [hvl]
            rw [hs, List.take_length] at hK2
            exact hK2
    · intro C D' ys nn newsI s' mc hK Zc
      have hvs : vs.toArray.size - 0 = row.length := by simp [hvl]
      rw [hvs] at hK
      obtain ⟨hy1, hy2⟩ := hK
      refine comp_endA (y := "ends") Z Zc fun s Z => ?_
      have hsl : (sufs e row).length = row.length := by simp [sufs]
      have hrows : ∀ s : Shared, (∀ p ∈ newsI, s.heap.get? p.1 = some p.2) → Rows s.heap ys (sufs e row) := fun s hg => ⟨by lia, fun i r hr => by
        have hi : i < row.length := by rw [← hsl]; exact (List.getElem?_eq_some_iff.mp hr).1
        obtain ⟨a, us, n', e1, e2, e3⟩ := hy2 i hi
        refine ⟨a, _, us.toArray, e1, hg _ e2, isL_lst, ?_⟩
        have := sufs_get (e := e) hi
        rw [List.getD_eq_getElem?_getD, hr, Option.getD_some] at this
        rw [this]; exact e3⟩
      have hbs : bs.size ≤ 2 := by
        rcases he with ⟨_, rfl⟩ | ⟨_, rfl⟩
        · rw [b0 rfl]; simp
        · obtain ⟨u1, rfl⟩ := b1 rfl; simp
      have Z := Z.swapM
      refine @wpAny_execs_cons _ _ _ _ _ _ _ _ <| @wpAny_Expr _ _ _ _ _ _ _ _ ( @MethodCall_ _ _ _ _ _ _ _ _ _ _ _ _ ( @ld _ _ _ _ _ _ _ _ _ _ _ _ Z _ m1 ( @getMethod_list_append _ _ _ _ _ _ _ _ (Z.getM (.head _)) rfl rfl <| @c_meth _ _ _ _ _ _ _ _ _ _ _ ( @a_cons _ _ _ _ _ _ _ _ _ ( @MethodCall_ _ _ _ _ _ _ _ _ _ _ _ _ ( @ld _ _ _ _ _ _ _ _ _ _ _ _ Z _ rfl ( @getMethod_list_of _ _ _ _ _ _ _ _ _ _ _ PySem.F.slot_list_index PySem.F.type_list_index (isL_lst.list (Z.get (.head _))) ⟨_, Z.get (.head _), rfl⟩ <| @c_meth _ _ _ _ _ _ _ _ _ _ _ ( @a_cons _ _ _ _ _ _ _ _ _ ( @c_call _ _ _ _ _ _ _ _ _ _ <| @ldb _ _ _ _ _ _ _ _ _ _ _ _ Z _ rfl ( @c_blt _ _ _ _ _ _ _ _ _ _ ( @a_cons _ _ _ _ _ _ _ _ _ ( @ld _ _ _ _ _ _ _ _ _ _ _ _ Z _ rfl ( @args_nil _ _ _ _ _ _ _ <|
        @max_rows _ _ _ _ _ _ _ _ _ _ _ _ _ _ _ Z hh (by show A.units + 3 + 1 < _; lia) (Z.get (.head _)) isL_lst (hrows s fun p hp => Z.get (.tail _ (List.mem_append_left _ hp))) (by lia) fun v s Z hv => @args_nil _ _ _ _ _ _ _ <|
        @r_index _ _ _ _ _ _ _ _ _ _ _ _ _ _ _ _ _ Z (by show A.units + 3 + 1 < _; omega) (Z.get (.head _)) (hrows s fun p hp => Z.get (.tail _ (List.mem_append_left _ hp))) (fun i k h1 h2 => ?_) hv (by lia) fun t s Z => @args_nil _ _ _ _ _ _ _ <| @r_append _ _ _ _ _ _ _ _ _ _ _ _ _ _ _ Z (by lia) fun n s Z => @wpAny_execs_nil _ _ _ _ _ _ ?_) (by rfl) (by rfl) (by decide) (by decide)) (by rfl)) (by rfl) (by rfl)) (by rfl) (by rfl) (by rfl) (by rfl) (by decide)) (by rfl)) (by rfl) (by rfl)) (by rfl) (by rfl) (by decide) (by decide)) (by rfl)) (by rfl)) (by rfl) (by rfl)) (by rfl) (by rfl) (by decide) (by decide)) (by rfl)) (by rfl) (by rfl)
      · rw [hsl] at h2
        rw [sufs_get (by lia), sufs_get h2]
        simp; lia
      · have Z := Z.swapM
        rw [hsl] at Z
        refine hPt _ _ ⟨_, _, _, Z, n, _, m1, m2, rfl, .tail _ (List.mem_append_right _ (.tail _ hm)), nofun, fun hi => ?_, fun hi => ?_⟩
        · obtain ⟨rfl, rfl⟩ : e = 1 ∧ i = 0 := by lia
          exact ⟨_, by rw [b0 rfl]; rfl⟩
        · obtain ⟨rfl, rfl⟩ : e = -1 ∧ i = 1 := by lia
          obtain ⟨u1, rfl⟩ := b1 rfl
          exact ⟨_, _, rfl⟩
  · intro m mus news s hK Z
    refine @goal_hide _ fun G hG => ?_
    obtain ⟨n, bs, m1, m2, rfl, hm, b0, b1, b2⟩ := hK
    obtain ⟨u1, u2, rfl⟩ := b2 rfl
    refine hG ?_
    refine @wpAny_execs_cons _ _ _ _ _ _ _ _ <| @wpAny_Return_some _ _ _ _ _ _ _ _ <| @ld _ _ _ _ _ _ _ _ _ _ _ _ Z _ m1 (?_) (by rfl) (by rfl) (by decide) (by decide)
    exact hPo _ _ <| h _ _ _ _ _ Z.done (Z.getM (.head _)) (Z.mu _ (.head _)).2.2.2.1
end
end Mine
namespace Mine
open PySem PySem.W PySem.Calls PyProof.Rows PySem.Builtin.Str
noncomputable abbrev wordsS : Str := "( ) [ ] : , ; + - * / | & < > = . % { } == != <= >= ~ ^ << >> ** += -= *= /= %= &= |= ^= <<= >>= **= // //= @ @= -> ... := !"
noncomputable def wordsL : List (List Nat) := [[40], [41], [91], [93], [58], [44], [59], [43], [45], [42], [47], [124], [38], [60], [62], [61], [46], [37], [123], [125], [61, 61], [33, 61], [60, 61], [62, 61], [126], [94], [60, 60], [62, 62], [42, 42], [43, 61], [45, 61], [42, 61], [47, 61], [37, 61], [38, 61], [124, 61], [94, 61], [60, 60, 61], [62, 62, 61], [42, 42, 61], [47, 47], [47, 47, 61], [64], [64, 61], [45, 62], [46, 46, 46], [58, 61], [33]]
theorem words_split : (Txt.split wordsS " ").map tl = wordsL := by decide +kernel
theorem bitAnd_one (x : Int) : Builtin.bitAnd x 1 = x % 2 := by
  unfold Builtin.bitAnd
  by_cases h : 0 ≤ x
  · simp only [h, decide_true, show decide ((0 : Int) ≤ 1) = true from rfl]
    have : x.toNat &&& (1 : Int).toNat = x.toNat % 2 := Nat.and_one_is_mod _
    rw [this]; lia
  · simp only [h, decide_false, show decide ((0 : Int) ≤ 1) = true from rfl]
    have : (1 : Int).toNat &&& (Builtin.bitNot x).toNat = (Builtin.bitNot x).toNat % 2 := by rw [Nat.and_comm]; exact Nat.and_one_is_mod _
    rw [this]
    have e : Builtin.bitNot x = -x - 1 := by unfold Builtin.bitNot; lia
    rw [e]; lia
noncomputable def mk (script : List Int) : Int := script.sum + 170221
noncomputable def fOf (m : Int) : Nat := (m % 48).toNat
noncomputable def sOf (m : Int) : Nat := if (m / 48 % 47).toNat ≥ fOf m then (m / 48 % 47).toNat + 1 else (m / 48 % 47).toNat
noncomputable def cOf (m : Int) : Nat := (97 + m / 2256 % 26).toNat
/-- the three pieces and their numbers -/
noncomputable def stk (m : Int) : Nat → List Nat × Int
  | 0 => (wordsL.getD (fOf m) [], 7 + fOf m)
  | 1 => (wordsL.getD (sOf m) [], 7 + sOf m)
  | _ => ([cOf m], 159 + cOf m)
noncomputable def tagc (x : Int) (k c : Nat) : Nat := if x / 3 / 2 ^ k % 2 = 1 then 917504 + c else c
noncomputable def cellT (m x : Int) : List Nat := (stk m (x % 3).toNat).1.mapIdx (fun k c => tagc x k c) ++ if (stk m (x % 3).toNat).2 < 256 ∨ x / 648 % 2 = 1 then [unseen (x / 24 % 27).toNat] else []
noncomputable def cells0 (script : List Int) : List Int := script.take 7 ++ ([0, 1, 3, 27, 4, 5] : List Int).drop script.length
noncomputable def cellsD (script : List Int) : List Int := cells0 script ++ (cells0 script).take (mk script / 58656 % 4).toNat
noncomputable def textD (script : List Int) : List Nat := ((cellsD script).map (cellT (mk script))).flatten
noncomputable def rowD (script : List Int) : List Int := (cellsD script).map fun x => (stk (mk script) (x % 3).toNat).2
theorem tag_ge (c : Nat) : (0 : Int) ≤ 917504 + (c : Int) := by omega
theorem tag_le {c : Nat} (h : 33 ≤ c ∧ c < 127) : (917504 : Int) + (c : Int) ≤ 1114111 := by omega
theorem tag_nat (c : Nat) : ((917504 : Int) + (c : Int)).toNat = 917504 + c := by omega
theorem words_len : wordsL.length = 48 := by decide
theorem fOf_lt (m : Int) : fOf m < 48 := by unfold fOf; lia
theorem sOf_lt (m : Int) : sOf m < 48 := by unfold sOf; split <;> lia
theorem words_ok : ∀ p ∈ wordsL, p.length ≤ 3 ∧ p ≠ [] ∧ ∀ c ∈ p, 33 ≤ c ∧ c < 127 := by decide +kernel
theorem words_at {k : Nat} (h : k < 48) : (wordsL.getD k []) ∈ wordsL := by
  rw [List.getD_eq_getElem?_getD, List.getElem?_eq_getElem (by rw [words_len]; exact h)]
  exact List.getElem_mem _
theorem cOf_ok (m : Int) : 97 ≤ cOf m ∧ cOf m < 123 := by unfold cOf; lia
theorem stk_ok (m : Int) (i : Nat) : (stk m i).1.length ≤ 3 ∧ (stk m i).1 ≠ [] ∧ ∀ c ∈ (stk m i).1, 33 ≤ c ∧ c < 127 := by
  match i with
  | 0 => exact words_ok _ (words_at (fOf_lt m))
  | 1 => exact words_ok _ (words_at (sOf_lt m))
  | n + 2 =>
    refine ⟨by show 1 ≤ 3; lia, by show [cOf m] ≠ []; simp, fun c hc => ?_⟩
    have hc : c ∈ [cOf m] := hc
    rw [List.mem_singleton.mp hc]
    have := cOf_ok m; lia
section
variable {w : World} {T : Tops} {s₀ s : Shared} {env : Env} {m : Str → Option Value} {mus news : List (Addr × Obj)} {A : Around} {E : Value → Shared → Prop} {Q : Value → Shared → Prop}
theorem i_div {a b : Int} {t u : Tok} (hb : 0 < b ∧ b < 2 ^ 30) (Z : St w T s₀ env m mus news s) (h : ∀ t s, St w T s₀ env m mus news s → Q (.int (a / b) t) s) : wpAny (model P31 w) A (binaryOp .FloorDiv (.int a t) (.int b u)) Q E s :=
  @r_fdiv _ _ _ _ _ _ _ _ _ _ _ _ _ _ _ Z (by lia) (PyProof.noPylong_small (by omega)) fun t s Z => by rw [Int.fdiv_eq_ediv_of_nonneg _ (by lia)]; exact h t s Z
theorem i_mod {a b : Int} {t u : Tok} (hb : 0 < b) (Z : St w T s₀ env m mus news s) (h : ∀ t s, St w T s₀ env m mus news s → Q (.int (a % b) t) s) : wpAny (model P31 w) A (binaryOp .Mod (.int a t) (.int b u)) Q E s :=
  @r_mod _ _ _ _ _ _ _ _ _ _ _ _ _ _ _ Z (by omega) fun t s Z => by rw [Int.fmod_eq_emod_of_nonneg _ (by lia)]; exact h t s Z
theorem i_shr {a : Int} {k : Nat} {t u : Tok} (Z : St w T s₀ env m mus news s) (h : ∀ t s, St w T s₀ env m mus news s → Q (.int (a / 2 ^ k) t) s) : wpAny (model P31 w) A (binaryOp .RShift (.int a t) (.int (k : Int) u)) Q E s :=
  @r_shr _ _ _ _ _ _ _ _ _ _ _ _ _ _ _ Z (by lia) fun t s Z => by rw [Int.toNat_natCast, Int.fdiv_eq_ediv_of_nonneg _ (by have : (0 : Int) < 2 ^ k := Int.pow_pos (by decide); lia)]; exact h t s Z
theorem i_odd {a : Int} {t u : Tok} (Z : St w T s₀ env m mus news s) (h : ∀ t s, St w T s₀ env m mus news s → Q (.int (a % 2) t) s) : wpAny (model P31 w) A (binaryOp .BitAnd (.int a t) (.int 1 u)) Q E s :=
  @r_and _ _ _ _ _ _ _ _ _ _ _ _ _ _ _ Z fun t s Z => by rw [bitAnd_one]; exact h t s Z
/-- one sign of a text -/
theorem st_str {value slice : Expr} {x : Str} {k c : Nat} {t u : Tok} (Z : St w T s₀ env m mus news s) (hk : (tl x)[k]? = some c) (hs2 : x.length < 2 ^ 60) (h : ∀ t s, St w T s₀ env m mus news s → Q (.str ⟨#[c]⟩ t) s)
    (hs : subscripted slice false (.str x t) (.int (k : Int) u) = operate [.str x t, .int (k : Int) u] (getItem (.str x t) (.int (k : Int) u)) := by with_unfolding_all rfl) : wpAny (model P31 w) A (subscriptTail value slice (.str x t) (.int (k : Int) u)) Q E s := by
  have hlt : k < x.length := by rw [← tl_len]; exact (List.getElem?_eq_some_iff.mp hk).1
  have e1 : Txt.charAt x (k : Int) = some c := by
    have e0 : seqIndex? (k : Int) x.length = some k := by
      unfold seqIndex?
      have h1 : ¬ (k : Int) < 0 := by lia
      simp only [h1, if_false, Int.toNat_natCast]
      rw [if_pos (by simp; lia)]
    unfold Txt.charAt
    rw [e0]
    show x.cps[k]? = some c
    rw [← Array.getElem?_toList]; exact hk
  have e2 : Txt.item x (k : Int) = ⟨#[c]⟩ := by unfold Txt.item; rw [e1]; rfl
  refine st_builtin (T := "str") (typeIs_str _ x t) PySem.F.slot_str_getitem.lookup (@PySem.SB.getItem _ _ _ _ _ _ _ _ _ _ (by unfold fitsSsize; simp; lia) (by rw [e1]; rfl) ?_) hs
  rw [e2]; exact h _ _ Z.tok
end
/-- what holds ahead of a turn of the loop over the items -/
inductive KD (M : Int) (D st d6 : Addr) (xs : List Value) (base : List (Addr × Obj)) (cs : List Int) (i : Nat) (m : Str → Option Value) (mus news : List (Addr × Obj)) : Prop
  | mk (x : Str) (t : Tok) (rs : List Value) (n : Nat) (h1 : m "text" = some (.str x t)) (h2 : m "row" = some (.ref D)) (h3 : m "stock" = some (.ref st)) (h4 : mus = [(D, lstO (List.toArray rs) n)])
    (h5 : ∀ p ∈ base, p ∈ news) (h6 : (d6, lstO xs.toArray 0) ∈ news) (h7 : tl x = (cs.map (cellT M)).flatten) (h8 : IntsAre rs (cs.map fun x => (stk M (x % 3).toNat).2)) (h9 : x.length ≤ 4 * i) : KD M D st d6 xs base cs i m mus news
/-- what holds ahead of a turn of the loop over an item's signs -/
inductive KI (D st d6 : Addr) (xs : List Value) (base : List (Addr × Obj)) (xi : Int) (tx : Tok) (px : Str) (up : Tok) (nb : Int) (np : Tok) (mus0 : List (Addr × Obj)) (pre : List Nat) (lim : Nat) (m : Str → Option Value) (mus news : List (Addr × Obj)) : Prop
  | mk (y : Str) (t : Tok) (h1 : m "text" = some (.str y t)) (h2 : m "row" = some (.ref D)) (h3 : m "stock" = some (.ref st)) (h4 : m "x" = some (.int xi tx)) (h5 : m "piece" = some (.str px up)) (h6 : m "number" = some (.int nb np))
    (h7 : mus = mus0) (h8 : ∀ p ∈ base, p ∈ news) (h9 : (d6, lstO xs.toArray 0) ∈ news) (h10 : tl y = pre) (h11 : y.length ≤ lim) : KI D st d6 xs base xi tx px up nb np mus0 pre lim m mus news
section
variable {w : World} {T : Tops} {s₀ : Shared} {A : Around} {Q : Value → Shared → Prop}
noncomputable def forBody : Stmt → List Stmt
  | .For _ _ b _ _ => b
  | _ => []
noncomputable abbrev rest13 (k : Nat) : List Stmt := (fBody (fAt 13)).drop k
theorem s_drawn {sc : Addr} {so : Obj} {vs : List Value} {script : List Int} (g : G w T s₀.heap) (room : A.depth + 1 < recursionLimit) (hh : A.handled = none) (hl : s₀.heap.get? sc = some so) (hlo : IsL so vs.toArray) (hi : IntsAre vs script) (hn : script.length ≤ 63)
    (h : ∀ s' d rw x us n t, Later w T s₀ s' → s'.heap.get? d = some (tupO #[.str x t, .ref rw]) → s'.heap.get? rw = some (lstO (List.toArray us) n) → s₀.heap.get? d = none → s₀.heap.get? rw = none → tl x = textD script → IntsAre us (rowD script) → Q (.ref d) s') :
    wpAny (model P31 w) A (call (.ref (T.f 13)) [.ref sc]) Q NoE s₀ := by
  have hvl := hi.length
  refine call_fn (i := 13) (binds := [("script", .ref sc)]) (by decide) g (by lia) (by rfl) (by rfl) (by rfl) (fun s Z => ?_) (by rfl) (by rfl) (by rfl)
  refine @wp_hide _ _ _ _ _ _ _ fun Po hPo => ?_
  refine @wpAny_execs_cons _ _ _ _ _ _ _ _ <| @wpAny_Assign_Name _ _ _ _ _ _ _ _ _ _ ( @MethodCall_ _ _ _ _ _ _ _ _ _ _ _ _ ( @k_str _ _ _ _ _ _ _ _ _ _ _ _ _ _ Z fun t s Z => @PySem.GM.split _ _ _ _ _ _ _ _ <| @c_meth _ _ _ _ _ _ _ _ _ _ _ ( @a_cons _ _ _ _ _ _ _ _ _ ( @k_str _ _ _ _ _ _ _ _ _ _ _ _ _ _ Z fun t s Z => @args_nil _ _ _ _ _ _ _ <| @r_split _ _ _ _ _ _ _ _ _ _ _ _ _ _ _ Z (by decide) (by decide) fun W l s e Z => ?_) (by rfl)) (by rfl) (by rfl)) (by rfl)) (by rfl)
  have hW : ∀ k, k < 48 → ∃ x t, (strValues l)[k]? = some (.str x t) ∧ tl x = wordsL.getD k [] := fun k hk => by
    have h2 : l.map (fun p => tl p.1) = wordsL := by rw [← words_split, ← e, List.map_map]; rfl
    have hlen : l.length = 48 := by rw [← words_len, ← h2, List.length_map]
    refine ⟨(l[k]'(by lia)).1, (l[k]'(by omega)).2, ?_, ?_⟩
    · unfold strValues
      rw [List.getElem?_map, List.getElem?_eq_getElem (by omega)]; rfl
    · rw [← h2, List.getD_eq_getElem?_getD, List.getElem?_map, List.getElem?_eq_getElem (by omega)]; rfl
  have Z := Z.freeze
  refine @stl _ _ _ _ _ _ _ _ _ _ _ Z _ (fun s Z => ?_) (by rfl) (by rfl) (by rfl)
  refine @wpAny_execs_cons _ _ _ _ _ _ _ _ <| @wpAny_Assign_Name _ _ _ _ _ _ _ _ _ _ ( @wpAny_BinOp _ _ _ _ _ _ _ _ _ _ <| @c_call _ _ _ _ _ _ _ _ _ _ <| @ldb _ _ _ _ _ _ _ _ _ _ _ _ Z _ rfl ( @c_blt _ _ _ _ _ _ _ _ _ _ ( @a_cons _ _ _ _ _ _ _ _ _ ( @ld _ _ _ _ _ _ _ _ _ _ _ _ Z _ rfl ( @args_nil _ _ _ _ _ _ _ <| @r_sum _ _ _ _ _ _ _ _ _ _ _ _ _ _ _ Z hh (Z.gr.keep hl hlo.cls) hlo hi fun t s Z => @k_int _ _ _ _ _ _ _ _ _ _ _ _ _ _ Z fun t s Z => @r_add _ _ _ _ _ _ _ _ _ _ _ _ _ _ _ Z fun tm s Z => ?_) (by rfl) (by rfl) (by decide) (by decide)) (by rfl)) (by rfl) (by rfl)) (by rfl) (by rfl) (by rfl) (by rfl) (by decide)) (by rfl)
  rw [show script.sum + 170221 = mk script from rfl]
  generalize hmk : mk script = M at *
  refine @stl _ _ _ _ _ _ _ _ _ _ _ Z _ (fun s Z => ?_) (by rfl) (by rfl) (by rfl)
  refine @wpAny_execs_cons _ _ _ _ _ _ _ _ <| @wpAny_Assign_Name _ _ _ _ _ _ _ _ _ _ ( @wpAny_BinOp _ _ _ _ _ _ _ _ _ _ <| @ld _ _ _ _ _ _ _ _ _ _ _ _ Z _ rfl ( @k_int _ _ _ _ _ _ _ _ _ _ _ _ _ _ Z fun t s Z => @i_mod _ _ _ _ _ _ _ _ _ _ _ _ _ _ _ (by decide) Z fun t s Z => ?_) (by rfl) (by rfl) (by decide) (by decide)) (by rfl)
  rw [show M % 48 = ((fOf M : Nat) : Int) by unfold fOf; lia]
  refine @stl _ _ _ _ _ _ _ _ _ _ _ Z _ (fun s Z => ?_) (by rfl) (by rfl) (by rfl)
  refine @wpAny_execs_cons _ _ _ _ _ _ _ _ <| @wpAny_Assign_Name _ _ _ _ _ _ _ _ _ _ ( @wpAny_BinOp _ _ _ _ _ _ _ _ _ _ <| @wpAny_BinOp _ _ _ _ _ _ _ _ _ _ <| @ld _ _ _ _ _ _ _ _ _ _ _ _ Z _ rfl ( @k_int _ _ _ _ _ _ _ _ _ _ _ _ _ _ Z fun t s Z => @i_div _ _ _ _ _ _ _ _ _ _ _ _ _ _ _ (by decide) Z fun t s Z => @k_int _ _ _ _ _ _ _ _ _ _ _ _ _ _ Z fun t s Z => @i_mod _ _ _ _ _ _ _ _ _ _ _ _ _ _ _ (by decide) Z fun t s Z => ?_) (by rfl) (by rfl) (by decide) (by decide)) (by rfl)
  rw [show M / 48 % 47 = (((M / 48 % 47).toNat : Nat) : Int) by lia]
  obtain ⟨s2, hs2⟩ := hide_eq ((M / 48 % 47).toNat)
  rw [hs2]
  refine @stl _ _ _ _ _ _ _ _ _ _ _ Z _ (fun s Z => ?_) (by rfl) (by rfl) (by rfl)
  have key : ∀ (ts : Tok) (m : Str → Option Value) (news : List (Addr × Obj)) (s : Shared), m "script" = some (.ref sc) → m "words" = some (.ref W) → m "mark" = some (.int M tm) → (W, lstO (strValues l).toArray 0) ∈ news →
      (∃ tf, m "first" = some (.int (fOf M : Nat) tf)) → m "second" = some (.int (sOf M : Nat) ts) → St w T s₀ (envF T 13 s₀.heap.objs.size) m [] news s →
      wpAny (model P31 w) (A.deeper (envF T 13 s₀.heap.objs.size)) (execs (rest13 5) (envF T 13 s₀.heap.objs.size)) Po NoE s := by
    rintro ts m news s m1 m2 m3 hWm ⟨tf, m4⟩ m5 Z
    obtain ⟨x1, u1, e1, w1⟩ := hW _ (fOf_lt M)
    obtain ⟨x2, u2, e2, w2⟩ := hW _ (sOf_lt M)
    refine @wpAny_execs_cons _ _ _ _ _ _ _ _ <| @wpAny_Assign_Name _ _ _ _ _ _ _ _ _ _ ( @wpAny_BinOp _ _ _ _ _ _ _ _ _ _ <| @k_int _ _ _ _ _ _ _ _ _ _ _ _ _ _ Z fun t s Z => @wpAny_BinOp _ _ _ _ _ _ _ _ _ _ <| @wpAny_BinOp _ _ _ _ _ _ _ _ _ _ <| @ld _ _ _ _ _ _ _ _ _ _ _ _ Z _ m3 ( @k_int _ _ _ _ _ _ _ _ _ _ _ _ _ _ Z fun t s Z => @i_div _ _ _ _ _ _ _ _ _ _ _ _ _ _ _ (by decide) Z fun t s Z => @k_int _ _ _ _ _ _ _ _ _ _ _ _ _ _ Z fun t s Z => @i_mod _ _ _ _ _ _ _ _ _ _ _ _ _ _ _ (by decide) Z fun t s Z => @r_add _ _ _ _ _ _ _ _ _ _ _ _ _ _ _ Z fun tc s Z => ?_) (by rfl) (by rfl) (by decide) (by decide)) (by rfl)
    rw [show (97 + M / 2256 % 26) = ((cOf M : Nat) : Int) by unfold cOf; lia]
    refine @stl _ _ _ _ _ _ _ _ _ _ _ Z _ (fun s Z => ?_) (by rfl) (by rfl) (by rfl)
    have hc := cOf_ok M
    refine @wpAny_execs_cons _ _ _ _ _ _ _ _ <| @wpAny_Assign_Name _ _ _ _ _ _ _ _ _ _ ( @List_ _ _ _ _ _ _ _ _ ?_) (by rfl)
    refine @a_cons _ _ _ _ _ _ _ _ _ ( @Tuple_ _ _ _ _ _ _ _ _ _ <| @a_cons _ _ _ _ _ _ _ _ _ ( @Subscript_ _ _ _ _ _ _ _ _ _ <| @ld _ _ _ _ _ _ _ _ _ _ _ _ Z _ m2 ( @ld _ _ _ _ _ _ _ _ _ _ _ _ Z _ m4 ( st_list (x := .str x1 u1) (isL_lst.list (Z.get hWm)) (by lia) (by have := fOf_lt M; lia) (by simpa using e1) <| @a_cons _ _ _ _ _ _ _ _ _ ( @wpAny_BinOp _ _ _ _ _ _ _ _ _ _ <| @k_int _ _ _ _ _ _ _ _ _ _ _ _ _ _ Z fun t s Z => @ld _ _ _ _ _ _ _ _ _ _ _ _ Z _ m4 ( @r_add _ _ _ _ _ _ _ _ _ _ _ _ _ _ _ Z fun n1 s Z => @args_nil _ _ _ _ _ _ _ <| @r_tuple2 _ _ _ _ _ _ _ _ _ _ _ _ _ Z fun p1 s Z => ?_) (by rfl) (by rfl) (by decide) (by decide)) (by rfl)) (by rfl) (by rfl) (by decide) (by decide)) (by rfl) (by rfl) (by decide) (by decide)) (by rfl)) (by rfl)
    refine @a_cons _ _ _ _ _ _ _ _ _ ( @Tuple_ _ _ _ _ _ _ _ _ _ <| @a_cons _ _ _ _ _ _ _ _ _ ( @Subscript_ _ _ _ _ _ _ _ _ _ <| @ld _ _ _ _ _ _ _ _ _ _ _ _ Z _ m2 ( @ld _ _ _ _ _ _ _ _ _ _ _ _ Z _ m5 ( st_list (x := .str x2 u2) (isL_lst.list (Z.get (.tail _ hWm))) (by lia) (by have := sOf_lt M; lia) (by simpa using e2) <| @a_cons _ _ _ _ _ _ _ _ _ ( @wpAny_BinOp _ _ _ _ _ _ _ _ _ _ <| @k_int _ _ _ _ _ _ _ _ _ _ _ _ _ _ Z fun t s Z => @ld _ _ _ _ _ _ _ _ _ _ _ _ Z _ m5 ( @r_add _ _ _ _ _ _ _ _ _ _ _ _ _ _ _ Z fun n2 s Z => @args_nil _ _ _ _ _ _ _ <| @r_tuple2 _ _ _ _ _ _ _ _ _ _ _ _ _ Z fun p2 s Z => ?_) (by rfl) (by rfl) (by decide) (by decide)) (by rfl)) (by rfl) (by rfl) (by decide) (by decide)) (by rfl) (by rfl) (by decide) (by decide)) (by rfl)) (by rfl)
    refine @a_cons _ _ _ _ _ _ _ _ _ ( @Tuple_ _ _ _ _ _ _ _ _ _ <| @a_cons _ _ _ _ _ _ _ _ _ ( @c_call _ _ _ _ _ _ _ _ _ _ <| @ldb _ _ _ _ _ _ _ _ _ _ _ _ Z _ rfl ( @c_blt _ _ _ _ _ _ _ _ _ _ ( @a_cons _ _ _ _ _ _ _ _ _ ( @ld _ _ _ _ _ _ _ _ _ _ _ _ Z _ rfl ( @args_nil _ _ _ _ _ _ _ <| @chr_of_range _ _ _ _ _ _ _ _ (by lia) (by lia) ?_) (by rfl) (by rfl) (by decide) (by decide)) (by rfl)) (by rfl) (by rfl)) (by rfl) (by rfl) (by rfl) (by rfl) (by decide)) (by rfl)) (by rfl)
    rw [Int.toNat_natCast]
    obtain ⟨tk, htk⟩ : ∃ tk, s.toks = tk := ⟨_, rfl⟩
    rw [htk]
    have Z := Z.tok (t := tk + 1)
    refine @a_cons _ _ _ _ _ _ _ _ _ ( @wpAny_BinOp _ _ _ _ _ _ _ _ _ _ <| @k_int _ _ _ _ _ _ _ _ _ _ _ _ _ _ Z fun t s Z => @ld _ _ _ _ _ _ _ _ _ _ _ _ Z _ rfl ( @r_add _ _ _ _ _ _ _ _ _ _ _ _ _ _ _ Z fun n3 s Z => @args_nil _ _ _ _ _ _ _ <| @r_tuple2 _ _ _ _ _ _ _ _ _ _ _ _ _ Z fun p3 s Z => @args_nil _ _ _ _ _ _ _ <| @r_newlist _ _ _ _ _ _ _ _ _ _ _ _ Z (by simp) fun st s Z => ?_) (by rfl) (by rfl) (by decide) (by decide)) (by rfl)
    refine @stl _ _ _ _ _ _ _ _ _ _ _ Z _ (fun s Z => ?_) (by rfl) (by rfl) (by rfl)
    obtain ⟨base, hb, Z⟩ := Z.hideN
    have hst0 : (st, lstO [Value.ref p1, .ref p2, .ref p3].toArray 0) ∈ base := by rw [← hb]; exact .head _
    have hst : ∀ i, i < 3 → ∃ (p : Addr) (x : Str) (u : Tok) (n : Tok), ([Value.ref p1, .ref p2, .ref p3].toArray)[i]? = some (.ref p) ∧ (p, tupO #[.str x u, .int (stk M i).2 n]) ∈ base ∧ tl x = (stk M i).1 := fun i hi => by
      rcases (show i = 0 ∨ i = 1 ∨ i = 2 by lia) with rfl | rfl | rfl
      · exact ⟨p1, x1, u1, n1, rfl, by rw [← hb]; exact .tail _ (.tail _ (.tail _ (.head _))), w1⟩
      · exact ⟨p2, x2, u2, n2, rfl, by rw [← hb]; exact .tail _ (.tail _ (.head _)), w2⟩
      · exact ⟨p3, ⟨#[cOf M]⟩, tk, n3, rfl, by rw [← hb]; exact .tail _ (.head _), rfl⟩
    clear hb
    have hlk : ∀ {m : Str → Option Value} {mus news : List (Addr × Obj)} {s : Shared}, St w T s₀ (envF T 13 s₀.heap.objs.size) m mus news s → s.heap.get? sc = some so := fun Z => Z.gr.keep hl hlo.cls
    refine @wpAny_execs_cons _ _ _ _ _ _ _ _ <| @wpAny_Assign_Name _ _ _ _ _ _ _ _ _ _ ( @wpAny_BinOp _ _ _ _ _ _ _ _ _ _ <| @Subscript_ _ _ _ _ _ _ _ _ _ <| @ld _ _ _ _ _ _ _ _ _ _ _ _ Z _ m1 ( @wpAny_Slice _ _ _ _ _ _ _ _ _ _ <| @wpAny_evalPart_none _ _ _ _ _ _ <| @wpAny_evalPart_some _ _ _ _ _ _ _ <| @k_int _ _ _ _ _ _ _ _ _ _ _ _ _ _ Z fun t s Z => @wpAny_evalPart_none _ _ _ _ _ _ <| ll_upto (b := 7) Z (hlk Z) hlo (by simp; lia) fun d1 s Z => ?_) (by rfl) (by rfl) (by decide) (by decide)) (by rfl)
    refine @Subscript_ _ _ _ _ _ _ _ _ _ <| @List_ _ _ _ _ _ _ _ _ <| @args_ints _ _ _ _ _ _ _ _ _ _ [0, 1, 3, 27, 4, 5] _ _ _ (by rfl) Z fun us s hu Z => @r_newlist _ _ _ _ _ _ _ _ _ _ _ _ Z (by rw [hu.length]; decide) fun d2 s Z => ?_
    refine @wpAny_Slice _ _ _ _ _ _ _ _ _ _ <| @wpAny_evalPart_some _ _ _ _ _ _ _ <| @c_call _ _ _ _ _ _ _ _ _ _ <| @ldb _ _ _ _ _ _ _ _ _ _ _ _ Z _ rfl ( @c_blt _ _ _ _ _ _ _ _ _ _ ( @a_cons _ _ _ _ _ _ _ _ _ ( @ld _ _ _ _ _ _ _ _ _ _ _ _ Z _ m1 ( @args_nil _ _ _ _ _ _ _ <| @r_lenL _ _ _ _ _ _ _ _ _ _ _ _ _ Z (hlo.list (hlk Z)) (by simp; lia) fun t s Z => @wpAny_evalPart_none _ _ _ _ _ _ <| @wpAny_evalPart_none _ _ _ _ _ _ <| @ll_from _ _ _ _ _ _ _ _ _ _ _ _ _ _ _ _ _ _ Z (Z.get (.head _)) isL_lst (by simp [hu.length]) (fun d3 s Z => ?_) (by with_unfolding_all rfl)) (by rfl) (by rfl) (by decide) (by decide)) (by rfl)) (by rfl) (by rfl)) (by rfl) (by rfl) (by rfl) (by rfl) (by decide)
    refine @r_ladd _ _ _ _ _ _ _ _ _ _ _ _ _ _ _ _ _ Z (Z.get (.tail _ (.tail _ (.head _)))) (Z.get (.head _)) (by simp [hu.length]; (clear room hmk hs2 hc htk; omega)) fun d4 s Z => ?_
    have hus : IntsAre ((vs.take 7) ++ us.drop vs.length) (cells0 script) := by
      unfold cells0
      have := (hi.take 7).append (hu.drop script.length)
      rw [hvl]; exact this
    rw [show ((List.take 7 vs.toArray.toList).toArray ++ (List.drop vs.toArray.size us.toArray.toList).toArray) = ((vs.take 7) ++ us.drop vs.length).toArray by simp] at Z
    obtain ⟨cs, hcs⟩ := hide_eq ((vs.take 7) ++ us.drop vs.length)
    rw [hcs] at hus Z
    clear hcs
    have hcl := hus.length
    have hc0 : (cells0 script).length ≤ 7 := by
      unfold cells0
      rw [List.length_append, List.length_take, List.length_drop]
      show _ + (6 - _) ≤ 7
      (clear room hmk hs2 hc htk hcl; omega)
    refine @stl _ _ _ _ _ _ _ _ _ _ _ Z _ (fun s Z => ?_) (by rfl) (by rfl) (by rfl)
    have hb7 : 0 ≤ M / 58656 % 4 := by lia
    obtain ⟨b7, hb7⟩ : ∃ b7 : Nat, M / 58656 % 4 = b7 := ⟨_, (Int.toNat_of_nonneg hb7).symm⟩
    refine @wpAny_execs_cons _ _ _ _ _ _ _ _ <| @wpAny_Assign_Name _ _ _ _ _ _ _ _ _ _ ( @wpAny_BinOp _ _ _ _ _ _ _ _ _ _ <| @ld _ _ _ _ _ _ _ _ _ _ _ _ Z _ rfl ( @Subscript_ _ _ _ _ _ _ _ _ _ <| @ld _ _ _ _ _ _ _ _ _ _ _ _ Z _ rfl ( @wpAny_Slice _ _ _ _ _ _ _ _ _ _ <| @wpAny_evalPart_none _ _ _ _ _ _ <| @wpAny_evalPart_some _ _ _ _ _ _ _ <| @wpAny_BinOp _ _ _ _ _ _ _ _ _ _ <| @wpAny_BinOp _ _ _ _ _ _ _ _ _ _ <| @ld _ _ _ _ _ _ _ _ _ _ _ _ Z _ m3 ( @k_int _ _ _ _ _ _ _ _ _ _ _ _ _ _ Z fun t s Z => @i_div _ _ _ _ _ _ _ _ _ _ _ _ _ _ _ (by decide) Z fun t s Z => @k_int _ _ _ _ _ _ _ _ _ _ _ _ _ _ Z fun t s Z => @i_mod _ _ _ _ _ _ _ _ _ _ _ _ _ _ _ (by decide) Z fun t s Z => @wpAny_evalPart_none _ _ _ _ _ _ ?_) (by rfl) (by rfl) (by decide) (by decide)) (by rfl) (by rfl) (by decide) (by decide)) (by rfl) (by rfl) (by decide) (by decide)) (by rfl)
    rw [hb7]
    refine @ll_upto _ _ _ _ _ _ _ _ _ _ _ _ _ _ _ _ _ _ Z (Z.get (.head _)) isL_lst (by simp; lia) (fun d5 s Z => ?_) (by with_unfolding_all rfl)
    refine @r_ladd _ _ _ _ _ _ _ _ _ _ _ _ _ _ _ _ _ Z (Z.get (.tail _ (.head _))) (Z.get (.head _)) (by simp; lia) fun d6 s Z => ?_
    have hus2 : IntsAre (cs ++ cs.take b7) (cellsD script) := by
      unfold cellsD
      rw [hmk, hb7, Int.toNat_natCast]
      exact hus.append (hus.take b7)
    rw [show (cs.toArray ++ (List.take b7 cs.toArray.toList).toArray) = (cs ++ cs.take b7).toArray by simp] at Z
    obtain ⟨xs, hxs⟩ := hide_eq (cs ++ cs.take b7)
    rw [hxs] at hus2 Z
    clear hxs
    have hxl := hus2.length
    have hxl2 : (cellsD script).length ≤ 14 := by
      unfold cellsD
      rw [List.length_append, List.length_take]; (clear room hn hvl hmk hs2 hc htk hb7 hxl; lia)
    refine @stl _ _ _ _ _ _ _ _ _ _ _ Z _ (fun s Z => ?_) (by rfl) (by rfl) (by rfl)
    refine @wpAny_execs_cons _ _ _ _ _ _ _ _ <| @wpAny_Assign_Name _ _ _ _ _ _ _ _ _ _ ( @k_str _ _ _ _ _ _ _ _ _ _ _ _ _ _ Z fun t s Z => @stl _ _ _ _ _ _ _ _ _ _ _ Z _ (fun s Z => ?_) (by rfl) (by rfl) (by rfl)) (by rfl)
    refine @wpAny_execs_cons _ _ _ _ _ _ _ _ <| @wpAny_Assign_Name _ _ _ _ _ _ _ _ _ _ ( @List_ _ _ _ _ _ _ _ _ <| @args_nil _ _ _ _ _ _ _ <| @r_newlistM _ _ _ _ _ _ _ _ _ _ _ _ Z (by simp) fun D s Z => @stl _ _ _ _ _ _ _ _ _ _ _ Z _ (fun s Z => ?_) (by rfl) (by rfl) (by rfl)) (by rfl)
    refine @wpAny_execs_cons _ _ _ _ _ _ _ _ <| @wpAny_For _ _ _ _ _ _ _ _ _ _ _ ( @ld _ _ _ _ _ _ _ _ _ _ _ _ Z _ rfl ( @r_iterList _ _ _ _ _ _ _ _ _ _ _ _ _ _ _ Z hh (Z.get (.head _)) isL_lst (fun i m mus news => KD M D st d6 xs base ((cellsD script).take i) i m mus news) ?_ ?_ ?_ (?_) (by intro _ _; rfl)) (by rfl) (by rfl) (by decide) (by decide)) (by intro _; rfl)
    · rintro i m mus news s ⟨_, _, _, _, _, _, _, _, _, hm, _⟩ Z
      exact Z.get hm
    · exact ⟨_, _, [], 0, rfl, rfl, rfl, rfl, fun p hp => .tail _ (.tail _ (.tail _ (.tail _ (.tail _ (.tail _ hp))))), .head _, rfl, .nil, by decide⟩
    · intro I i m mus news oI v s hi2 hK hv Z
      refine @turn_hide _ _ _ _ _ _ _ _ _ _ _ fun Pt hPt => @goal_hide _ fun G hG => ?_
      obtain ⟨x, t, rs, n, k1, k2, k3, rfl, k5, k6, k7, k8, k9⟩ := hK
      have hi2 : i < (cellsD script).length := by simpa [hxl] using hi2
      obtain ⟨tx, hvx⟩ := hus2.get i _ (List.getElem?_eq_getElem hi2)
      obtain rfl : v = .int (cellsD script)[i] tx := by
        rw [List.getElem?_toArray, hvx] at hv
        exact (Option.some.inj hv).symm
      have htake : (cellsD script).take (i + 1) = (cellsD script).take i ++ [(cellsD script)[i]] := by rw [List.take_add_one, List.getElem?_eq_getElem hi2]; rfl
      rw [htake] at hPt
      have hrl := k8.length
      obtain ⟨xi, hxi⟩ := hide_eq ((cellsD script)[i])
      rw [hxi] at hPt hG hvx
      obtain ⟨p, px, up, np, hp1, hp2, hp3⟩ := hst (xi % 3).toNat (by lia)
      have hok := stk_ok M (xi % 3).toNat
      rw [← hp3] at hok
      have hpl : px.length ≤ 3 := by rw [← tl_len]; exact hok.1
      refine hG ?_
      clear hG
      refine @wpAny_assign_Name _ _ _ _ _ _ _ _ _ <| @stl _ _ _ _ _ _ _ _ _ _ _ Z _ (fun s Z => ?_) (by rfl) (by rfl) (by rfl)
      refine @wpAny_execs_cons _ _ _ _ _ _ _ _ <| @Assign_Tuple _ _ _ _ _ _ _ _ _ _ _ ( @Subscript_ _ _ _ _ _ _ _ _ _ <| @ld _ _ _ _ _ _ _ _ _ _ _ _ Z _ k3 ( @wpAny_BinOp _ _ _ _ _ _ _ _ _ _ <| @ld _ _ _ _ _ _ _ _ _ _ _ _ Z _ rfl ( @k_int _ _ _ _ _ _ _ _ _ _ _ _ _ _ Z fun t s Z => @i_mod _ _ _ _ _ _ _ _ _ _ _ _ _ _ _ (by decide) Z fun t s Z => st_list (x := .ref p) (isL_lst.list (Z.get (k5 _ hst0))) (by lia) (by lia) hp1 <| @r_unpack2 _ _ _ _ _ _ _ _ _ _ _ _ _ _ _ _ _ _ _ _ Z hh (Z.get (k5 _ hp2)) fun s Z => @stl _ _ _ _ _ _ _ _ _ _ _ Z _ (fun s Z => @stl _ _ _ _ _ _ _ _ _ _ _ Z _ (fun s Z => ?_) (by rfl) (by rfl) (by rfl)) (by rfl) (by rfl) (by rfl)) (by rfl) (by rfl) (by decide) (by decide)) (by rfl) (by rfl) (by decide) (by decide)) (by rfl) (by rfl)
      refine @wpAny_execs_cons _ _ _ _ _ _ _ _ <| @wpAny_For _ _ _ _ _ _ _ _ _ _ _ ( @c_call _ _ _ _ _ _ _ _ _ _ <| @ldb _ _ _ _ _ _ _ _ _ _ _ _ Z _ rfl ( @c_typ _ _ _ _ _ _ _ _ _ _ ( @a_cons _ _ _ _ _ _ _ _ _ ( @c_call _ _ _ _ _ _ _ _ _ _ <| @ldb _ _ _ _ _ _ _ _ _ _ _ _ Z _ rfl ( @c_blt _ _ _ _ _ _ _ _ _ _ ( @a_cons _ _ _ _ _ _ _ _ _ ( @ld _ _ _ _ _ _ _ _ _ _ _ _ Z _ rfl ( @args_nil _ _ _ _ _ _ _ <| @len_str _ _ _ _ _ _ _ _ (by lia) <| @args_nil _ _ _ _ _ _ _ <| @r_range1 _ _ _ _ _ _ _ _ _ _ _ _ _ Z.tok fun R tr vr s Z => ?_) (by rfl) (by rfl) (by decide) (by decide)) (by rfl)) (by rfl) (by rfl)) (by rfl) (by rfl) (by rfl) (by rfl) (by decide)) (by rfl)) (by rfl) (by rfl)) (by rfl) (by rfl) (by rfl) (by rfl) (by decide)) (by intro _; rfl)
      refine @r_iterRange _ _ _ _ _ _ _ _ _ _ _ _ _ _ _ _ _ _ Z hh (Z.get (.head _)) (by lia) (by lia) (fun k m mus news => KI D st d6 xs base xi tx px up (stk M (xi % 3).toNat).2 np [(I, oI), (D, lstO (List.toArray rs) n)] (tl x ++ ((tl px).take k).mapIdx (tagc xi)) (x.length + k) m mus news) ?_ ?_ (?_) (by intro _ _; rfl)
      · exact ⟨x, _, k1, k2, k3, rfl, rfl, rfl, rfl, fun p hp => .tail _ (k5 p hp), .tail _ k6, by simp, Nat.le_refl _⟩
      · intro J k m mus news oJ tk2 s hk hK Z
        refine @turn_hide _ _ _ _ _ _ _ _ _ _ _ fun Pk hPk => @goal_hide _ fun G hG => ?_
        obtain ⟨y, ty, j1, j2, j3, j4, j5, j6, rfl, j8, j9, j10, j11⟩ := hK
        have hk : k < px.length := by lia
        obtain ⟨c, hc2⟩ : ∃ c, (tl px)[k]? = some c := ⟨_, List.getElem?_eq_getElem (by rw [tl_len]; exact hk)⟩
        have hcb := hok.2.2 c (List.mem_of_getElem? hc2)
        have hmap : ((tl px).take (k + 1)).mapIdx (tagc xi) = ((tl px).take k).mapIdx (tagc xi) ++ [tagc xi k c] := by
          rw [List.take_add_one, hc2]
          show ((tl px).take k ++ [c]).mapIdx (tagc xi) = _
          rw [List.mapIdx_concat, List.length_take, tl_len, Nat.min_eq_left (by lia)]
        have fin : ∀ (c' : Nat) (t' : Tok) (m' : Str → Option Value) (s : Shared), c' = tagc xi k c → m' "text" = some (.str (y ++ ⟨#[c']⟩) t') → (∀ z, z ≠ ("text" : Str) → z ≠ ("k" : Str) → m' z = m z) → St w T s₀ (envF T 13 s₀.heap.objs.size) m' ((J, oJ) :: [(I, oI), (D, lstO (List.toArray rs) n)]) news s →
            ∃ m'' mus' news', St w T s₀ (envF T 13 s₀.heap.objs.size) m'' ((J, oJ) :: mus') news' s ∧ KI D st d6 xs base xi tx px up (stk M (xi % 3).toNat).2 np [(I, oI), (D, lstO (List.toArray rs) n)] (tl x ++ ((tl px).take (k + 1)).mapIdx (tagc xi)) (x.length + (k + 1)) m'' mus' news' := by
          rintro c' t' m' s rfl e1 e2 Z
          refine ⟨_, _, _, Z, _, _, e1, (e2 _ (by decide) (by decide)).trans j2, (e2 _ (by decide) (by decide)).trans j3, (e2 _ (by decide) (by decide)).trans j4, (e2 _ (by decide) (by decide)).trans j5, (e2 _ (by decide) (by decide)).trans j6, rfl, j8, j9, ?_, ?_⟩
          · rw [tl_append, j10, hmap, List.append_assoc]
          · rw [Str.length_append]
            show y.length + 1 ≤ _
            lia
        refine hG ?_
        clear hG
        refine @wpAny_assign_Name _ _ _ _ _ _ _ _ _ <| @stl _ _ _ _ _ _ _ _ _ _ _ Z _ (fun s Z => ?_) (by rfl) (by rfl) (by rfl)
        rw [Nat.zero_add] at Z
        refine @wpAny_execs_cons _ _ _ _ _ _ _ _ <| @wpAny_If _ _ _ _ _ _ _ _ _ _ <| @wpAny_isTrue_Compare1 _ _ _ _ _ _ _ _ _ _ _ ( @wpAny_BinOp _ _ _ _ _ _ _ _ _ _ <| @wpAny_BinOp _ _ _ _ _ _ _ _ _ _ <| @wpAny_BinOp _ _ _ _ _ _ _ _ _ _ <| @ld _ _ _ _ _ _ _ _ _ _ _ _ Z _ j4 ( @k_int _ _ _ _ _ _ _ _ _ _ _ _ _ _ Z fun t s Z => @i_div _ _ _ _ _ _ _ _ _ _ _ _ _ _ _ (by decide) Z fun t s Z => @ld _ _ _ _ _ _ _ _ _ _ _ _ Z _ rfl ( @i_shr _ _ _ _ _ _ _ _ _ _ _ _ _ _ _ Z fun t s Z => @k_int _ _ _ _ _ _ _ _ _ _ _ _ _ _ Z fun t s Z => @i_odd _ _ _ _ _ _ _ _ _ _ _ _ _ _ Z fun t s Z => @k_int _ _ _ _ _ _ _ _ _ _ _ _ _ _ Z fun t s Z => @eq_int _ _ _ _ _ _ _ _ _ _ <| @wpAny_truthy_bool _ _ _ _ _ _ ?_) (by rfl) (by rfl) (by decide) (by decide)) (by rfl) (by rfl) (by decide) (by decide)) (by with_unfolding_all rfl)
        by_cases hbit : xi / 3 / 2 ^ k % 2 = 1
        · rw [if_pos (by simpa using hbit)]
          refine @wpAny_execs_cons _ _ _ _ _ _ _ _ <| @wpAny_Assign_Name _ _ _ _ _ _ _ _ _ _ ( @wpAny_BinOp _ _ _ _ _ _ _ _ _ _ <| @ld _ _ _ _ _ _ _ _ _ _ _ _ Z _ j1 ( @c_call _ _ _ _ _ _ _ _ _ _ <| @ldb _ _ _ _ _ _ _ _ _ _ _ _ Z _ rfl ( @c_blt _ _ _ _ _ _ _ _ _ _ ( @a_cons _ _ _ _ _ _ _ _ _ ( @wpAny_BinOp _ _ _ _ _ _ _ _ _ _ <| @k_int _ _ _ _ _ _ _ _ _ _ _ _ _ _ Z fun t s Z => @c_call _ _ _ _ _ _ _ _ _ _ <| @ldb _ _ _ _ _ _ _ _ _ _ _ _ Z _ rfl ( @c_blt _ _ _ _ _ _ _ _ _ _ ( @a_cons _ _ _ _ _ _ _ _ _ ( @Subscript_ _ _ _ _ _ _ _ _ _ <| @ld _ _ _ _ _ _ _ _ _ _ _ _ Z _ j5 ( @ld _ _ _ _ _ _ _ _ _ _ _ _ Z _ rfl ( @st_str _ _ _ _ _ _ _ _ _ _ _ _ _ _ _ _ _ _ Z hc2 (by lia) (fun t s Z => @args_nil _ _ _ _ _ _ _ <| @PySem.P.ord_of_char _ _ _ _ _ _ _ _ <| @r_add _ _ _ _ _ _ _ _ _ _ _ _ _ _ _ Z.tok fun t s Z => @args_nil _ _ _ _ _ _ _ <| @chr_of_range _ _ _ _ _ _ _ _ (tag_ge c) (tag_le hcb) ?_) (by with_unfolding_all rfl)) (by rfl) (by rfl) (by decide) (by decide)) (by rfl) (by rfl) (by decide) (by decide)) (by rfl)) (by rfl) (by rfl)) (by rfl) (by rfl) (by rfl) (by rfl) (by decide)) (by rfl)) (by rfl) (by rfl)) (by rfl) (by rfl) (by rfl) (by rfl) (by decide)) (by rfl) (by rfl) (by decide) (by decide)) (by rfl)
          refine @r_sadd _ _ _ _ _ _ _ _ _ _ _ _ _ _ _ Z.tok (by show y.length + 1 ≤ _; unfold sizeLine; lia) fun t s Z => @stl _ _ _ _ _ _ _ _ _ _ _ Z _ (fun s Z => @wpAny_execs_nil _ _ _ _ _ _ <| @wpAny_execs_nil _ _ _ _ _ _ ?_) (by rfl) (by rfl) (by rfl)
          refine hPk _ _ ?_
          refine fin _ _ _ _ ?_ rfl (fun z h1 h2 => ?_) Z
          · unfold tagc; rw [if_pos hbit]; exact tag_nat c
          · unfold upd; rw [if_neg h1, if_neg h2]
        · rw [if_neg (by simpa using hbit)]
          refine @wpAny_execs_cons _ _ _ _ _ _ _ _ <| @wpAny_Assign_Name _ _ _ _ _ _ _ _ _ _ ( @wpAny_BinOp _ _ _ _ _ _ _ _ _ _ <| @ld _ _ _ _ _ _ _ _ _ _ _ _ Z _ j1 ( @Subscript_ _ _ _ _ _ _ _ _ _ <| @ld _ _ _ _ _ _ _ _ _ _ _ _ Z _ j5 ( @ld _ _ _ _ _ _ _ _ _ _ _ _ Z _ rfl ( @st_str _ _ _ _ _ _ _ _ _ _ _ _ _ _ _ _ _ _ Z hc2 (by omega) (fun t s Z => @r_sadd _ _ _ _ _ _ _ _ _ _ _ _ _ _ _ Z (by show y.length + 1 ≤ _; unfold sizeLine; omega) fun t s Z => @stl _ _ _ _ _ _ _ _ _ _ _ Z _ (fun s Z => @wpAny_execs_nil _ _ _ _ _ _ <| @wpAny_execs_nil _ _ _ _ _ _ ?_) (by rfl) (by rfl) (by rfl)) (by with_unfolding_all rfl)) (by rfl) (by rfl) (by decide) (by decide)) (by rfl) (by rfl) (by decide) (by decide)) (by rfl) (by rfl) (by decide) (by decide)) (by rfl)
          refine hPk _ _ ?_
          refine fin _ _ _ _ ?_ rfl (fun z h1 h2 => ?_) Z
          · unfold tagc; rw [if_neg hbit]
          · unfold upd; rw [if_neg h1, if_neg h2]
      · intro m mus news s hK Z
        refine @goal_hide _ fun G hG => ?_
        obtain ⟨y, ty, j1, j2, j3, j4, j5, j6, rfl, j8, j9, j10, j11⟩ := hK
        refine hG ?_
        clear hG
        rw [Nat.sub_zero] at j10 j11
        rw [List.take_of_length_le (by rw [tl_len]; exact Nat.le_refl _), hp3] at j10
        have last : ∀ (Post : Flow → Shared → Prop) (z : Str) (tz : Tok) (m' : Str → Option Value) (s : Shared), tl z = tl x ++ cellT M xi → z.length ≤ x.length + 4 → m' "text" = some (.str z tz) → (∀ z, z ≠ ("text" : Str) → m' z = m z) → St w T s₀ (envF T 13 s₀.heap.objs.size) m' [(I, oI), (D, lstO (List.toArray rs) n)] news s →
            (∀ s, (∃ m' mus' news', St w T s₀ (envF T 13 s₀.heap.objs.size) m' ((I, oI) :: mus') news' s ∧ KD M D st d6 xs base ((cellsD script).take i ++ [xi]) (i + 1) m' mus' news') → Post .next s) →
            wpAny (model P31 w) (A.deeper (envF T 13 s₀.heap.objs.size)) (execs ((forBody ((fBody (fAt 13)).getD 11 (.Pass default))).drop 3) (envF T 13 s₀.heap.objs.size)) Post NoE s := by
          intro Post z tz m' s e1 e2 e3 e4 Z hpost
          have Z := Z.swapM
          have hrs : rs.toArray.size ≤ 2 ^ 20 := by simp only [List.size_toArray, hrl, List.length_map, List.length_take]; omega
          refine @wpAny_execs_cons _ _ _ _ _ _ _ _ <| @wpAny_Expr _ _ _ _ _ _ _ _ ( @MethodCall_ _ _ _ _ _ _ _ _ _ _ _ _ ( @ld _ _ _ _ _ _ _ _ _ _ _ _ Z _ ((e4 _ (by decide)).trans j2) ( @getMethod_list_append _ _ _ _ _ _ _ _ (Z.getM (.head _)) rfl rfl <| @c_meth _ _ _ _ _ _ _ _ _ _ _ ( @a_cons _ _ _ _ _ _ _ _ _ ( @ld _ _ _ _ _ _ _ _ _ _ _ _ Z _ ((e4 _ (by decide)).trans j6) ( @args_nil _ _ _ _ _ _ _ <| @r_append _ _ _ _ _ _ _ _ _ _ _ _ _ _ _ Z hrs fun n s Z => @wpAny_execs_nil _ _ _ _ _ _ ?_) (by rfl) (by rfl) (by decide) (by decide)) (by rfl)) (by rfl) (by rfl)) (by rfl) (by rfl) (by decide) (by decide)) (by rfl)) (by rfl) (by rfl)
          have Z := Z.swapM
          rw [List.push_toArray] at Z
          refine hpost _ ⟨_, _, _, Z, z, tz, _, n, e3, (e4 _ (by decide)).trans j2, (e4 _ (by decide)).trans j3, rfl, j8, j9, ?_, ?_, by omega⟩
          · rw [List.map_append, List.flatten_append, ← k7, e1]; simp
          · rw [List.map_append]
            exact ints_snoc k8
        have hy4 : y.length ≤ x.length + 3 := by omega
        have hun : xi / 24 % 27 = (((xi / 24 % 27).toNat : Nat) : Int) := by omega
        have hup : (xi / 24 % 27).toNat < 27 := by omega
        have hthen : ((stk M (xi % 3).toNat).2 < 256 ∨ xi / 648 % 2 = 1) → (stk M (xi % 3).toNat).1.mapIdx (tagc xi) ++ tl ⟨#[unseen (xi / 24 % 27).toNat]⟩ = cellT M xi := fun hc => by
          unfold cellT; rw [if_pos hc]
        refine @wpAny_execs_cons _ _ _ _ _ _ _ _ <| @wpAny_If _ _ _ _ _ _ _ _ _ _ <| @isTrue_or _ _ _ _ _ _ _ _ _ _ <| @wpAny_isTrue_Compare1 _ _ _ _ _ _ _ _ _ _ _ ( @ld _ _ _ _ _ _ _ _ _ _ _ _ Z _ j6 ( @k_int _ _ _ _ _ _ _ _ _ _ _ _ _ _ Z fun t s Z => @lt_int _ _ _ _ _ _ _ _ _ _ <| @wpAny_truthy_bool _ _ _ _ _ _ ?_) (by rfl) (by rfl) (by decide) (by decide)) (by with_unfolding_all rfl)
        by_cases h1 : (stk M (xi % 3).toNat).2 < 256
        · rw [if_pos (by simpa using h1), if_pos rfl]
          refine @wpAny_execs_cons _ _ _ _ _ _ _ _ <| @wpAny_Assign_Name _ _ _ _ _ _ _ _ _ _ ( @wpAny_BinOp _ _ _ _ _ _ _ _ _ _ <| @ld _ _ _ _ _ _ _ _ _ _ _ _ Z _ j1 ( @c_call _ _ _ _ _ _ _ _ _ _ <| @ldg _ _ _ _ _ _ _ _ _ _ _ _ Z _ rfl ( r_callfn (i := 12) <| @a_cons _ _ _ _ _ _ _ _ _ ( @wpAny_BinOp _ _ _ _ _ _ _ _ _ _ <| @wpAny_BinOp _ _ _ _ _ _ _ _ _ _ <| @ld _ _ _ _ _ _ _ _ _ _ _ _ Z _ j4 ( @k_int _ _ _ _ _ _ _ _ _ _ _ _ _ _ Z fun t s Z => @i_div _ _ _ _ _ _ _ _ _ _ _ _ _ _ _ (by decide) Z fun t s Z => @k_int _ _ _ _ _ _ _ _ _ _ _ _ _ _ Z fun t s Z => @i_mod _ _ _ _ _ _ _ _ _ _ _ _ _ _ _ (by decide) Z fun t s Z => @args_nil _ _ _ _ _ _ _ ⟨(Z.g.fn 12 (by decide)).1, ?_⟩) (by rfl) (by rfl) (by decide) (by decide)) (by rfl)) (by rfl) (by rfl) (by rfl) (by decide)) (by rfl) (by rfl) (by decide) (by decide)) (by rfl)
          rw [hun]
          refine @s_unseen _ _ _ _ _ _ _ Z.g (by show A.depth + 1 < _; omega) hup fun s' t l => ?_
          refine @r_sadd _ _ _ _ _ _ _ _ _ _ _ _ _ _ _ (Z.later l) (by show y.length + 1 ≤ _; unfold sizeLine; omega) fun t s Z => @stl _ _ _ _ _ _ _ _ _ _ _ Z _ (fun s Z => @wpAny_execs_nil _ _ _ _ _ _ ?_) (by rfl) (by rfl) (by rfl)
          exact last _ (y ++ ⟨#[unseen (xi / 24 % 27).toNat]⟩) _ _ _ (by rw [tl_append, j10, List.append_assoc, hthen (.inl h1)]) (by rw [Str.length_append]; show y.length + 1 ≤ _; omega) rfl (fun z hz => by unfold upd; rw [if_neg hz]) Z fun s hs => hPt _ _ hs
        rw [if_neg (by simpa using h1)]
        refine @isTrue_or _ _ _ _ _ _ _ _ _ _ <| @wpAny_isTrue_Compare1 _ _ _ _ _ _ _ _ _ _ _ ( @wpAny_BinOp _ _ _ _ _ _ _ _ _ _ <| @wpAny_BinOp _ _ _ _ _ _ _ _ _ _ <| @ld _ _ _ _ _ _ _ _ _ _ _ _ Z _ j4 ( @k_int _ _ _ _ _ _ _ _ _ _ _ _ _ _ Z fun t s Z => @i_div _ _ _ _ _ _ _ _ _ _ _ _ _ _ _ (by decide) Z fun t s Z => @k_int _ _ _ _ _ _ _ _ _ _ _ _ _ _ Z fun t s Z => @i_mod _ _ _ _ _ _ _ _ _ _ _ _ _ _ _ (by decide) Z fun t s Z => @k_int _ _ _ _ _ _ _ _ _ _ _ _ _ _ Z fun t s Z => @eq_int _ _ _ _ _ _ _ _ _ _ <| @wpAny_truthy_bool _ _ _ _ _ _ ?_) (by rfl) (by rfl) (by decide) (by decide)) (by with_unfolding_all rfl)
        by_cases h2 : xi / 648 % 2 = 1
        · rw [if_pos (by simpa using h2), if_pos rfl]
          refine @wpAny_execs_cons _ _ _ _ _ _ _ _ <| @wpAny_Assign_Name _ _ _ _ _ _ _ _ _ _ ( @wpAny_BinOp _ _ _ _ _ _ _ _ _ _ <| @ld _ _ _ _ _ _ _ _ _ _ _ _ Z _ j1 ( @c_call _ _ _ _ _ _ _ _ _ _ <| @ldg _ _ _ _ _ _ _ _ _ _ _ _ Z _ rfl ( r_callfn (i := 12) <| @a_cons _ _ _ _ _ _ _ _ _ ( @wpAny_BinOp _ _ _ _ _ _ _ _ _ _ <| @wpAny_BinOp _ _ _ _ _ _ _ _ _ _ <| @ld _ _ _ _ _ _ _ _ _ _ _ _ Z _ j4 ( @k_int _ _ _ _ _ _ _ _ _ _ _ _ _ _ Z fun t s Z => @i_div _ _ _ _ _ _ _ _ _ _ _ _ _ _ _ (by decide) Z fun t s Z => @k_int _ _ _ _ _ _ _ _ _ _ _ _ _ _ Z fun t s Z => @i_mod _ _ _ _ _ _ _ _ _ _ _ _ _ _ _ (by decide) Z fun t s Z => @args_nil _ _ _ _ _ _ _ ⟨(Z.g.fn 12 (by decide)).1, ?_⟩) (by rfl) (by rfl) (by decide) (by decide)) (by rfl)) (by rfl) (by rfl) (by rfl) (by decide)) (by rfl) (by rfl) (by decide) (by decide)) (by rfl)
          rw [hun]
          refine @s_unseen _ _ _ _ _ _ _ Z.g (by show A.depth + 1 < _; omega) hup fun s' t l => ?_
          refine @r_sadd _ _ _ _ _ _ _ _ _ _ _ _ _ _ _ (Z.later l) (by show y.length + 1 ≤ _; unfold sizeLine; omega) fun t s Z => @stl _ _ _ _ _ _ _ _ _ _ _ Z _ (fun s Z => @wpAny_execs_nil _ _ _ _ _ _ ?_) (by rfl) (by rfl) (by rfl)
          exact last _ (y ++ ⟨#[unseen (xi / 24 % 27).toNat]⟩) _ _ _ (by rw [tl_append, j10, List.append_assoc, hthen (.inr h2)]) (by rw [Str.length_append]; show y.length + 1 ≤ _; omega) rfl (fun z hz => by unfold upd; rw [if_neg hz]) Z fun s hs => hPt _ _ hs
        rw [if_neg (by simpa using h2)]
        refine @isTrue_or_nil _ _ _ _ _ _ _ _ ?_
        rw [if_neg (by decide)]
        refine @wpAny_execs_nil _ _ _ _ _ _ ?_
        refine last _ y _ _ _ ?_ (by omega) j1 (fun z hz => rfl) Z fun s hs => hPt _ _ hs
        unfold cellT
        rw [if_neg (fun h => h.elim h1 h2), List.append_nil]; exact j10
    · rintro m mus news s ⟨x, t, rs, n, k1, k2, k3, rfl, k5, k6, k7, k8, k9⟩ Z
      rw [show xs.toArray.size = (cellsD script).length by simp [hxl], List.take_length] at k7 k8
      have Z := Z.freeze
      refine @wpAny_execs_cons _ _ _ _ _ _ _ _ <| @wpAny_Return_some _ _ _ _ _ _ _ _ <| @Tuple_ _ _ _ _ _ _ _ _ _ <| @a_cons _ _ _ _ _ _ _ _ _ ( @ld _ _ _ _ _ _ _ _ _ _ _ _ Z _ k1 ( @a_cons _ _ _ _ _ _ _ _ _ ( @ld _ _ _ _ _ _ _ _ _ _ _ _ Z _ k2 ( @args_nil _ _ _ _ _ _ _ <| @r_tuple2 _ _ _ _ _ _ _ _ _ _ _ _ _ Z fun d s Z => ?_) (by rfl) (by rfl) (by decide) (by decide)) (by rfl)) (by rfl) (by rfl) (by decide) (by decide)) (by rfl)
      exact hPo _ _ <| h _ _ _ _ _ _ _ Z.done (Z.get (.head _)) (Z.get (.tail _ (.head _))) (Z.nw _ (.head _)).2.2.2.1 (Z.nw _ (.tail _ (.head _))).2.2.2.1 (by unfold textD; rw [hmk]; exact k7) (by unfold rowD; rw [hmk]; exact k8)
  refine @wpAny_execs_cons _ _ _ _ _ _ _ _ <| @wpAny_If _ _ _ _ _ _ _ _ _ _ <| @wpAny_isTrue_Compare1 _ _ _ _ _ _ _ _ _ _ _ ( @ld _ _ _ _ _ _ _ _ _ _ _ _ Z _ rfl ( @ld _ _ _ _ _ _ _ _ _ _ _ _ Z _ rfl ( @ge_int _ _ _ _ _ _ _ _ _ _ <| @wpAny_truthy_bool _ _ _ _ _ _ ?_) (by rfl) (by rfl) (by decide) (by decide)) (by rfl) (by rfl) (by decide) (by decide)) (by with_unfolding_all rfl)
  by_cases hge : s2 ≥ fOf M
  · rw [if_pos (by simp; omega)]
    refine @wpAny_execs_cons _ _ _ _ _ _ _ _ <| @wpAny_Assign_Name _ _ _ _ _ _ _ _ _ _ ( @wpAny_BinOp _ _ _ _ _ _ _ _ _ _ <| @ld _ _ _ _ _ _ _ _ _ _ _ _ Z _ rfl ( @k_int _ _ _ _ _ _ _ _ _ _ _ _ _ _ Z fun t s Z => n_add (b := 1) Z fun t s Z => @stl _ _ _ _ _ _ _ _ _ _ _ Z _ (fun s Z => @wpAny_execs_nil _ _ _ _ _ _ ?_) (by rfl) (by rfl) (by rfl)) (by rfl) (by rfl) (by decide) (by decide)) (by rfl)
    exact key t _ _ _ rfl rfl rfl (.head _) ⟨_, rfl⟩ (by show some (Value.int ((s2 + 1 : Nat) : Int) t) = _; rw [show sOf M = s2 + 1 by unfold sOf; rw [hs2, if_pos hge]]) Z
  · rw [if_neg (by simp; omega)]
    refine @wpAny_execs_nil _ _ _ _ _ _ ?_
    exact key _ _ _ _ rfl rfl rfl (.head _) ⟨_, rfl⟩ (by show some (Value.int (s2 : Int) _) = _; rw [show sOf M = s2 by unfold sOf; rw [hs2, if_neg hge]]) Z
end
end Mine
namespace Mine
theorem gtL_irr : ∀ xs : List Int, gtL xs xs = false
  | [] => rfl
  | x :: xs => by unfold gtL; rw [if_pos rfl]; exact gtL_irr xs
theorem gtL_asymm : ∀ {xs ys : List Int}, gtL xs ys = true → gtL ys xs = false
  | [], _, h => by cases h
  | _ :: _, [], _ => rfl
  | x :: xs, y :: ys, h => by
    unfold gtL at h ⊢
    by_cases e : x = y
    · rw [if_pos e] at h; rw [if_pos e.symm]; exact gtL_asymm h
    · rw [if_neg e] at h; rw [if_neg (Ne.symm e)]; simp at h ⊢; lia
theorem gtL_trans : ∀ {xs ys zs : List Int}, gtL xs ys = true → gtL ys zs = true → gtL xs zs = true
  | [], _, _, h, _ => by cases h
  | _ :: _, [], _, _, h => by cases h
  | _ :: _, _ :: _, [], _, _ => rfl
  | x :: xs, y :: ys, z :: zs, h1, h2 => by
    unfold gtL at h1 h2 ⊢
    by_cases e1 : x = y
    · subst e1
      rw [if_pos rfl] at h1
      by_cases e2 : x = z
      · rw [if_pos e2] at h2 ⊢; exact gtL_trans h1 h2
      · rw [if_neg e2] at h2 ⊢; exact h2
    · rw [if_neg e1] at h1
      by_cases e2 : y = z
      · subst e2; rw [if_neg e1]; exact h1
      · rw [if_neg e2] at h2
        simp at h1 h2
        rw [if_neg (by lia)]; simp; lia
theorem gtL_total : ∀ {xs ys : List Int}, xs ≠ ys → gtL xs ys = true ∨ gtL ys xs = true
  | [], [], h => absurd rfl h
  | [], _ :: _, _ => .inr rfl
  | _ :: _, [], _ => .inl rfl
  | x :: xs, y :: ys, h => by
    unfold gtL
    by_cases e : x = y
    · subst e
      rw [if_pos rfl, if_pos rfl]
      exact gtL_total fun q => h (by rw [q])
    · rw [if_neg e, if_neg (Ne.symm e)]; simp; lia
theorem gtL_pre : ∀ (ws xs ys : List Int), gtL (ws ++ xs) (ws ++ ys) = gtL xs ys
  | [], _, _ => rfl
  | w :: ws, xs, ys => by
    show gtL (w :: (ws ++ xs)) (w :: (ws ++ ys)) = _
    rw [gtL, if_pos rfl]; exact gtL_pre ws xs ys
theorem gtL_ext : ∀ (xs : List Int) {zs : List Int}, zs ≠ [] → gtL (xs ++ zs) xs = true
  | [], [], h => absurd rfl h
  | [], _ :: _, _ => rfl
  | x :: xs, zs, h => by
    show gtL (x :: (xs ++ zs)) (x :: xs) = true
    rw [gtL, if_pos rfl]; exact gtL_ext xs h
/-- the order by sign e -/
noncomputable def Gs (e : Int) (xs ys : List Int) : Prop := gtL (xs.map (e * ·)) (ys.map (e * ·)) = true
theorem Gs.asymm {e : Int} {xs ys : List Int} (h : Gs e xs ys) : ¬ Gs e ys xs := by
  unfold Gs at *; rw [gtL_asymm h]; decide
theorem Gs.pre {e : Int} {ws xs ys : List Int} : Gs e (ws ++ xs) (ws ++ ys) ↔ Gs e xs ys := by
  unfold Gs; rw [List.map_append, List.map_append, gtL_pre]
theorem Gs.ext {e : Int} {xs zs : List Int} (h : zs ≠ []) : Gs e (xs ++ zs) xs := by
  unfold Gs; rw [List.map_append]; exact gtL_ext _ (by simpa using h)
theorem both_pre {e : Int} (he : e = 1 ∨ e = -1) : ∀ {ys vs : List Int}, ¬ Gs e ys vs → ¬ Gs (-e) ys vs → ys <+: vs
  | [], _, _, _ => List.nil_prefix
  | y :: ys, [], h, _ => absurd (show gtL (e * y :: ys.map (e * ·)) [] = true from rfl) h
  | y :: ys, v :: vs, h1, h2 => by
    by_cases q : y = v
    · subst q
      have h1' : ¬ Gs e ys vs := fun h => h1 ((Gs.pre (ws := [y])).mpr h)
      have h2' : ¬ Gs (-e) ys vs := fun h => h2 ((Gs.pre (ws := [y])).mpr h)
      obtain ⟨t, ht⟩ := both_pre he h1' h2'
      exact ⟨t, by rw [← ht]; rfl⟩
    · exfalso
      unfold Gs at h1 h2
      simp only [List.map_cons] at h1 h2
      unfold gtL at h1 h2
      rcases he with rfl | rfl
      · rw [if_neg (by lia)] at h1 h2; simp at h1 h2; lia
      · rw [if_neg (by omega)] at h1 h2; simp at h1 h2; lia
theorem best_max {gt : Nat → Nat → Bool} (tr : ∀ a b c, gt a b = true → gt b c = true → gt a c = true) {N : Nat} (tot : ∀ a b, a ≤ N → b ≤ N → a ≠ b → gt a b = true ∨ gt b a = true) : ∀ (k j : Nat), k ≤ N → j ≤ k → j ≠ best gt k → gt (best gt k) j = true
  | 0, j, _, hj, hne => absurd (show j = best gt 0 from Nat.le_zero.mp hj) hne
  | k + 1, j, hk, hj, hne => by
    rw [best_succ] at hne ⊢
    cases hg : gt (k + 1) (best gt k) with
    | true =>
      rw [hg] at hne; simp only [if_true] at hne ⊢
      by_cases q : j = best gt k
      · rw [q]; exact hg
      · exact tr _ _ _ hg (best_max tr tot k j (by lia) (by lia) q)
    | false =>
      rw [hg] at hne; simp only [Bool.false_eq_true, if_false] at hne ⊢
      by_cases q : j = k + 1
      · subst q
        have hle := best_le (gt := gt) k
        rcases tot (best gt k) (k + 1) (by lia) (by lia) (by lia) with h | h
        · exact h
        · rw [hg] at h; cases h
      · exact best_max tr tot k j (by omega) (by lia) hne
theorem map_inj {e : Int} (he : e = 1 ∨ e = -1) {xs ys : List Int} (h : xs.length ≠ ys.length) : xs.map (e * ·) ≠ ys.map (e * ·) := fun q => h (by have := congrArg List.length q; simpa using this)
/-- the greatest suffix is greater than every other -/
theorem begS_max {e : Int} (he : e = 1 ∨ e = -1) {row : List Int} (hn : 0 < row.length) : begS e row < row.length ∧ ∀ j, j < row.length → j ≠ begS e row → Gs e (row.drop (begS e row)) (row.drop j) := by
  have hle : begS e row ≤ row.length - 1 := best_le _
  refine ⟨by omega, fun j hj hne => ?_⟩
  have := best_max (gt := fun i j => gtL ((sufs e row).getD i []) ((sufs e row).getD j [])) (fun a b c h1 h2 => gtL_trans h1 h2) (N := row.length - 1) (fun a b ha hb hab => gtL_total (by
    rw [sufs_get (by omega), sufs_get (by (clear he hle hj ha; omega))]
    exact map_inj he (by rw [List.length_drop, List.length_drop]; (clear he hle hj hb; lia)))) (row.length - 1) j (Nat.le_refl _) (by lia) hne
  have h2 : gtL ((sufs e row).getD (begS e row) []) ((sufs e row).getD j []) = true := this
  rw [sufs_get (by lia), sufs_get hj] at h2
  exact h2
noncomputable def Per {α : Type} (x : List α) (p : Nat) : Prop := ∀ i, i + p < x.length → x[i]? = x[i + p]?
noncomputable def LPer {α : Type} (x : List α) (c k : Nat) : Prop := ∀ i, c - k ≤ i → i < c → i + k < x.length → x[i]? = x[i + k]?
theorem slice_eq {α : Type} {x : List α} {a b q : Nat} (h : ∀ i, a ≤ i → i < b → x[i]? = x[i + q]?) : (x.drop a).take (b - a) = (x.drop (a + q)).take (b - a) := by
  refine List.ext_getElem? fun i => ?_
  rw [List.getElem?_take, List.getElem?_take, List.getElem?_drop, List.getElem?_drop]
  split
  · rw [h (a + i) (by lia) (by omega)]
    congr 1; lia
  · rfl
theorem drop_split {α : Type} (x : List α) (a k : Nat) : x.drop a = (x.drop a).take k ++ x.drop (a + k) := by
  rw [← List.drop_drop, List.take_append_drop]
/-- the critical place: a local repetition there is a period -/
theorem critical {e : Int} (he : e = 1 ∨ e = -1) {x : List Int} {c c' q : Nat} (hcn : c < x.length) (hc : c' ≤ c) (M1 : ∀ j, j < x.length → j ≠ c → Gs e (x.drop c) (x.drop j)) (M2 : ∀ j, j < x.length → j ≠ c' → Gs (-e) (x.drop c') (x.drop j))
    (hq : 1 ≤ q) (hqn : q ≤ x.length) (hL : LPer x c q) : Per x q := by
  rcases Nat.lt_or_ge c q with hB | hA
  · -- the word reaches over the left end
    rcases Nat.lt_or_ge c (x.length - q) with h2 | h2
    · have hy : x.drop (c + q) <+: x.drop c := by
        refine both_pre he (M1 _ (by omega) (by lia)).asymm fun h => ?_
        have e1 := slice_eq (x := x) (a := c') (b := c) (q := q) fun i h1 h2 => hL i (by lia) h2 (by omega)
        have e2 := drop_split x c' (c - c')
        have e3 := drop_split x (c' + q) (c - c')
        rw [show c' + (c - c') = c by (clear he hcn hq hqn hB h2; lia)] at e2
        rw [show c' + q + (c - c') = c + q by (clear he hcn hq hqn hB h2; lia), ← e1] at e3
        have h3 := M2 (c' + q) (by omega) (by lia)
        rw [e2, e3] at h3
        exact (Gs.pre.mp h3).asymm h
      intro i hi
      rcases Nat.lt_or_ge i c with h | h
      · exact hL i (by omega) h hi
      · obtain ⟨t, ht⟩ := hy
        have h3 : (x.drop c)[i - c]? = (x.drop (c + q))[i - c]? := by
          rw [← ht, List.getElem?_append_left (by rw [List.length_drop]; lia)]
        rw [List.getElem?_drop, List.getElem?_drop] at h3
        rw [show c + (i - c) = i by lia, show c + q + (i - c) = i + q by lia] at h3
        exact h3
    · exact fun i hi => hL i (by omega) (by omega) hi
  · exfalso
    rcases Nat.lt_or_ge (c + q) x.length with h2 | h2
    · have e1 := slice_eq (x := x) (a := c - q) (b := c) (q := q) fun i h3 h4 => hL i h3 h4 (by lia)
      have e2 := drop_split x (c - q) (c - (c - q))
      have e3 := drop_split x c (c - (c - q))
      rw [e1, show c - q + (c - (c - q)) = c by (clear he hcn hc hqn h2; lia), show c - q + q = c by (clear he hcn hc hq hqn h2; lia)] at e2
      have h3 := M1 (c - q) (by omega) (by omega)
      rw [e2] at h3
      conv at h3 => arg 2; rw [e3]
      have h4 := Gs.pre.mp h3
      rw [show c + (c - (c - q)) = c + q by (clear he hcn hc hqn h2; lia)] at h4
      exact h4.asymm (M1 (c + q) h2 (by omega))
    · have e1 := slice_eq (x := x) (a := c - q) (b := x.length - q) (q := q) fun i h3 h4 => hL i h3 (by lia) (by omega)
      have e2 := drop_split x (c - q) (x.length - q - (c - q))
      rw [e1, show c - q + q = c by omega, List.take_of_length_le (by rw [List.length_drop]; lia), show c - q + (x.length - q - (c - q)) = x.length - q by lia] at e2
      have h3 := M1 (c - q) (by (clear he hc hq hqn; omega)) (by omega)
      rw [e2] at h3
      refine h3.asymm (Gs.ext fun h => ?_)
      have := congrArg List.length h
      rw [List.length_drop] at this
      simp at this; omega
theorem critical_row {x : List Int} {q : Nat} (hn : 0 < x.length) (hq : 1 ≤ q) (hqn : q ≤ x.length) (hL : LPer x (max (begS 1 x) (begS (-1) x)) q) : Per x q := by
  obtain ⟨b1, m1⟩ := begS_max (e := 1) (.inl rfl) hn
  obtain ⟨b2, m2⟩ := begS_max (e := -1) (.inr rfl) hn
  rcases Nat.le_total (begS 1 x) (begS (-1) x) with h | h
  · rw [Nat.max_eq_right h] at hL
    exact critical (e := -1) (.inr rfl) b2 h m2 m1 hq hqn hL
  · rw [Nat.max_eq_left h] at hL
    exact critical (e := 1) (.inl rfl) b1 h m1 m2 hq hqn hL
theorem Per.local {α : Type} {x : List α} {p : Nat} (h : Per x p) (c : Nat) : LPer x c p := fun i _ _ h3 => h i h3
end Mine
namespace Mine
open PySem PySem.W PySem.Builtin.Str PySem.StrLaws
/-- w stands in y at i -/
noncomputable def At (y w : List Nat) (i : Nat) : Prop := (y.drop i).take w.length = w
theorem at_iff {y x : Str} {i : Nat} : subAt y x i = true ↔ At (tl y) (tl x) i := by
  rw [subAt_eq, beq_iff_eq]
  show ((tl y).drop i).take x.length = tl x ↔ _
  unfold At; rw [tl_len]
theorem At.get {y w : List Nat} {i : Nat} (h : At y w i) {k : Nat} (hk : k < w.length) : y[i + k]? = w[k]? := by
  have e : ((y.drop i).take w.length)[k]? = w[k]? := by rw [h]
  rw [List.getElem?_take_of_lt hk, List.getElem?_drop] at e
  exact e
theorem At.of {y w : List Nat} {i : Nat} (h : ∀ k, k < w.length → y[i + k]? = w[k]?) : At y w i := by
  unfold At
  refine List.ext_getElem? fun k => ?_
  rw [List.getElem?_take]
  split
  · rename_i hk; rw [List.getElem?_drop]; exact h k hk
  · rename_i hk; rw [List.getElem?_eq_none (by lia)]
theorem At.le {y w : List Nat} {i : Nat} (h : At y w i) (hw : w ≠ []) : i + w.length ≤ y.length := by
  have := congrArg List.length h
  rw [List.length_take, List.length_drop] at this
  have : 0 < w.length := List.length_pos_iff.mpr hw
  omega
theorem at_nil {y : List Nat} {i : Nat} : At y [] i := by unfold At; simp
/-- the words stand in y one after the other between lo and hi -/
noncomputable def Chain (y : List Nat) (hi : Nat) : List (List Nat) → Nat → Prop
  | [], _ => True
  | w :: r, lo => ∃ i, lo ≤ i ∧ i + w.length ≤ hi ∧ At y w i ∧ Chain y hi r (i + w.length)
theorem Chain.mono {y : List Nat} {hi : Nat} : ∀ {ws : List (List Nat)} {lo lo' : Nat}, lo' ≤ lo → Chain y hi ws lo → Chain y hi ws lo'
  | [], _, _, _, _ => trivial
  | _ :: _, _, _, hl, ⟨i, h1, h2⟩ => ⟨i, by lia, h2⟩
theorem Chain.len {y : List Nat} {hi : Nat} : ∀ {ws : List (List Nat)} {lo : Nat}, lo ≤ hi → Chain y hi ws lo → lo + (ws.map List.length).sum ≤ hi
  | [], _, h, _ => by simpa using h
  | w :: r, lo, h, ⟨i, h1, h2, _, h3⟩ => by
    have := Chain.len h2 h3
    simp only [List.map_cons, List.sum_cons]; lia
theorem go_iff {y : Str} {hi : Nat} : ∀ {ws : List Str} {lo : Nat}, ellGo y hi ws lo = true ↔ Chain (tl y) hi (ws.map tl) lo
  | [], _ => by simp [ellGo, Chain]
  | x :: r, lo => by
    unfold ellGo
    rcases occ_first (s := y) (sub := x) (lo := lo) (hi := hi) with ⟨i, ho, h1, h2, h3, h4⟩ | ⟨ho, h4⟩
    · have hf : findIn y x lo hi = i := by unfold findIn; rw [ho]
      rw [hf, if_neg (by lia), Int.toNat_natCast, go_iff]
      rw [← tl_len] at h2
      constructor
      · exact fun h => ⟨i, h1, h2, at_iff.mp h3, by rw [tl_len]; exact h⟩
      · rintro ⟨j, g1, g2, g3, g4⟩
        refine Chain.mono ?_ g4
        rw [tl_len]
        rcases Nat.lt_or_ge j i with q | q
        · have := h4 j g1 q
          rw [at_iff.mpr g3] at this; cases this
        · lia
    · have hf : findIn y x lo hi = -1 := by unfold findIn; rw [ho]
      rw [hf, if_pos (by decide)]
      constructor
      · intro h; cases h
      · rintro ⟨j, g1, g2, g3, _⟩
        have := h4 j g1 (by rw [← tl_len]; exact g2)
        rw [at_iff.mpr g3] at this; cases this
theorem chk_iff {y : Str} {lo hi : Nat} {ws : List Str} : ellChk y lo hi ws = true ↔ lo ≤ hi ∧ Chain (tl y) hi (ws.map tl) lo := by
  unfold ellChk
  split
  · constructor
    · intro h; cases h
    · intro h; lia
  · rw [go_iff]; exact ⟨fun h => ⟨by lia, h⟩, fun h => h.2⟩
theorem sw_iff {y x : Str} : Txt.startswith y x = true ↔ x.length ≤ y.length ∧ At (tl y) (tl x) 0 := by
  unfold Txt.startswith
  rw [Bool.and_eq_true, at_iff, decide_eq_true_eq, Nat.zero_add]
theorem ew_iff {y x : Str} : Txt.endswith y x = true ↔ x.length ≤ y.length ∧ At (tl y) (tl x) (y.length - x.length) := by
  unfold Txt.endswith
  rw [Bool.and_eq_true, at_iff, decide_eq_true_eq, Nat.zero_add]
theorem at_end {y : Str} {i : Nat} : At (tl y) [] i := at_nil
theorem chain_end {y : List Nat} {hi : Nat} : ∀ {ws : List (List Nat)} {lo : Nat}, lo ≤ hi → (Chain y hi (ws ++ [[]]) lo ↔ Chain y hi ws lo)
  | [], lo, h => ⟨fun _ => trivial, fun _ => ⟨lo, Nat.le_refl _, by simpa using h, at_nil, trivial⟩⟩
  | w :: r, lo, h => by
    constructor
    · rintro ⟨i, h1, h2, h3, h4⟩
      exact ⟨i, h1, h2, h3, (chain_end h2).mp h4⟩
    · rintro ⟨i, h1, h2, h3, h4⟩
      exact ⟨i, h1, h2, h3, (chain_end h2).mpr h4⟩
theorem chain_head {y : List Nat} {hi lo : Nat} {ws : List (List Nat)} (h : lo ≤ hi) : Chain y hi ([] :: ws) lo ↔ Chain y hi ws lo := by
  constructor
  · rintro ⟨i, h1, _, _, h4⟩
    exact h4.mono h1
  · intro h4
    exact ⟨lo, Nat.le_refl _, by simpa using h, at_nil, h4⟩
theorem end_iff {y z : Str} {lo : Nat} {ws : List Str} : ellEnd y lo (ws ++ [z]) = true ↔ z.length ≤ y.length ∧ At (tl y) (tl z) (y.length - z.length) ∧ lo ≤ y.length - z.length ∧ Chain (tl y) (y.length - z.length) (ws.map tl) lo := by
  unfold ellEnd
  rw [List.getLastD_concat, List.dropLast_concat]
  by_cases h0 : z.length = 0
  · rw [if_pos h0, chk_iff]
    have hz : tl z = [] := by rw [← List.length_eq_zero_iff, tl_len]; exact h0
    rw [hz, h0, Nat.sub_zero, List.map_append, List.map_cons, List.map_nil, hz]
    constructor
    · rintro ⟨h1, h2⟩
      exact ⟨Nat.zero_le _, at_nil, h1, (chain_end h1).mp h2⟩
    · rintro ⟨_, _, h1, h2⟩
      exact ⟨h1, (chain_end h1).mpr h2⟩
  · rw [if_neg h0]
    by_cases he : Txt.endswith y z = true
    · rw [if_pos he, chk_iff]
      have := ew_iff.mp he
      exact ⟨fun h => ⟨this.1, this.2, h.1, h.2⟩, fun h => ⟨h.2.2.1, h.2.2.2⟩⟩
    · rw [if_neg he]
      constructor
      · intro h; cases h
      · exact fun h => absurd (ew_iff.mpr ⟨h.1, h.2.1⟩) he
/-- what _ellipsis_match says of the parts of its text -/
theorem top_iff {y x z : Str} {ws : List Str} : ellTop y (x :: (ws ++ [z])) = true ↔ At (tl y) (tl x) 0 ∧ At (tl y) (tl z) (y.length - z.length) ∧ x.length + z.length ≤ y.length ∧ Chain (tl y) (y.length - z.length) (ws.map tl) x.length := by
  unfold ellTop
  rw [show (x :: (ws ++ [z])).headD dots = x from rfl, show (x :: (ws ++ [z])).tail = ws ++ [z] from rfl]
  by_cases h0 : x.length = 0
  · rw [if_pos h0]
    have hx : tl x = [] := by rw [← List.length_eq_zero_iff, tl_len]; exact h0
    rw [show x :: (ws ++ [z]) = (x :: ws) ++ [z] from rfl, end_iff, hx, h0, List.map_cons, hx, chain_head (Nat.zero_le _)]
    constructor
    · rintro ⟨h1, h2, _, h4⟩
      exact ⟨at_nil, h2, by lia, h4⟩
    · rintro ⟨_, h2, h3, h4⟩
      exact ⟨by lia, h2, Nat.zero_le _, h4⟩
  · rw [if_neg h0]
    by_cases hs : Txt.startswith y x = true
    · rw [if_pos hs, end_iff]
      have := sw_iff.mp hs
      constructor
      · rintro ⟨h1, h2, h3, h4⟩
        exact ⟨this.2, h2, by (clear h0 this; lia), h4⟩
      · rintro ⟨_, h2, h3, h4⟩
        exact ⟨by (clear h0 this; lia), h2, by lia, h4⟩
    · rw [if_neg hs]
      constructor
      · intro h; cases h
      · exact fun h => absurd (sw_iff.mpr ⟨by lia, h.1⟩) hs
/-- parts too long for the text -/
theorem top_long {y x z : Str} {ws : List Str} (h : y.length < x.length + (ws.map Str.length).sum + z.length) : ellTop y (x :: (ws ++ [z])) = false := by
  rw [Bool.eq_false_iff]
  intro hc
  obtain ⟨_, _, h3, h4⟩ := top_iff.mp hc
  have := h4.len (by (clear h; omega))
  rw [List.map_map] at this
  rw [show (List.length ∘ tl) = Str.length from funext tl_len] at this
  lia
end Mine
namespace Mine
open PySem PySem.W PySem.Calls PyProof.Rows PySem.Builtin.Str
noncomputable def untag (c : Nat) : Nat := if c9S (c : Int) then c - 917504 else c
noncomputable def tok (p : List Nat) : Option Int := tokTab.lookup ⟨p.toArray⟩
noncomputable def sizeAt (l : List Nat) : Nat := if (tok (l.take 3)).isSome then 3 else if (tok (l.take 2)).isSome then 2 else 1
/-- the number that the first piece gives -/
noncomputable def headT (l : List Nat) : List Int := match tok (l.take (sizeAt l)) with
  | some k => [k]
  | none => if b1S (l.headD 0 : Nat) then [] else [159 + (l.headD 0 : Nat)]
noncomputable def readF : Nat → List Nat → List Int
  | 0, _ => []
  | n + 1, l => if l = [] then [] else headT l ++ readF n (l.drop (sizeAt l))
theorem sizeAt_pos (l : List Nat) : 1 ≤ sizeAt l ∧ sizeAt l ≤ 3 := by unfold sizeAt; split <;> (try split) <;> lia
theorem readF_nil : ∀ n, readF n [] = []
  | 0 => rfl
  | n + 1 => by unfold readF; rw [if_pos rfl]
theorem readF_fuel : ∀ (n m : Nat) (l : List Nat), l.length ≤ n → l.length ≤ m → readF n l = readF m l
  | 0, m, l, h, _ => by
    have : l = [] := List.length_eq_zero_iff.mp (by lia)
    rw [this, readF_nil, readF_nil]
  | n + 1, 0, l, _, h => by
    have : l = [] := List.length_eq_zero_iff.mp (by omega)
    rw [this, readF_nil, readF_nil]
  | n + 1, m + 1, l, h1, h2 => by
    unfold readF
    split
    · rfl
    · have := sizeAt_pos l
      rw [readF_fuel n m _ (by rw [List.length_drop]; lia) (by rw [List.length_drop]; lia)]
theorem join0 : ∀ ps : List Str, tl (Txt.join "" ps) = (ps.map tl).flatten := by
  intro ps
  unfold Txt.join
  rw [StrLaws.glued_eq_join]
  induction ps with
  | nil => rfl
  | cons p r ih =>
    cases r with
    | nil => show tl p = _; simp
    | cons q r =>
      show tl (p ++ "" ++ Str.join "" (q :: r)) = _
      rw [tl_append, tl_append, ih]
      show tl p ++ [] ++ _ = _
      simp
theorem foldl_len {sep : Str} : ∀ (ps : List Str) (a : Nat), ps.foldl (· + ·.length + sep.length) a = a + (ps.map (·.length)).sum + ps.length * sep.length
  | [], a => by simp
  | p :: r, a => by
    rw [List.foldl_cons, foldl_len r]
    simp only [List.map_cons, List.sum_cons, List.length_cons, Nat.add_mul, Nat.one_mul]; lia
theorem joinOk {sep : Str} {ps : List Str} (h : (ps.map (·.length)).sum + ps.length * sep.length ≤ 2 ^ 20) : JoinOk sep ps = true := by
  unfold JoinOk Builtin.Str.tooLong sizeLine
  have e : ps.toArray.foldl (fun (a : Nat) (b : Str) => a + b.length + sep.length) 0 = ps.foldl (fun (a : Nat) (b : Str) => a + b.length + sep.length) 0 := List.foldl_toArray ..
  rw [e, foldl_len]
  simp; lia
section
variable {w : World} {T : Tops} {s₀ s : Shared} {env : Env} {m : Str → Option Value} {mus news : List (Addr × Obj)} {A : Around} {E : Value → Shared → Prop} {Q : Value → Shared → Prop}
theorem tokF_some (Z : St w T s₀ env m mus news s) {x : Str} : (T.tokF x).isSome = (tokTab.lookup x).isSome := by
  cases h : tokTab.lookup x with
  | none => rw [Z.g.ok.tokN x h]; rfl
  | some k => obtain ⟨t, e⟩ := Z.g.ok.tok x k h; rw [e]; rfl
theorem r_inTok {x : Str} {t : Tok} (Z : St w T s₀ env m mus news s) (h : ∀ s, St w T s₀ env m mus news s → Q (.bool (tokTab.lookup x).isSome) s) : wpAny (model P31 w) A (compareOp .In (.str x t) (.ref T.tok)) Q E s :=
  wpAny_in_of (strKind_is P31 w x t) Z.g.ok.tn Z.g.tok (by rw [tokF_some Z]; exact h _ Z.tok)
theorem r_notInTok {x : Str} {t : Tok} (Z : St w T s₀ env m mus news s) (h : ∀ s, St w T s₀ env m mus news s → Q (.bool (!(tokTab.lookup x).isSome)) s) : wpAny (model P31 w) A (compareOp .NotIn (.str x t) (.ref T.tok)) Q E s :=
  wpAny_notIn_of (strKind_is P31 w x t) Z.g.ok.tn Z.g.tok (by rw [tokF_some Z]; exact h _ Z.tok)
theorem r_getTok {value slice : Expr} {x : Str} {k : Int} {t : Tok} (Z : St w T s₀ env m mus news s) (hx : tokTab.lookup x = some k) (h : ∀ t s, St w T s₀ env m mus news s → Q (.int k t) s)
    (hs : subscripted slice false (.ref T.tok) (.str x t) = operate [.ref T.tok, .str x t] (getItem (.ref T.tok) (.str x t)) := by with_unfolding_all rfl) : wpAny (model P31 w) A (subscriptTail value slice (.ref T.tok) (.str x t)) Q E s := by
  obtain ⟨u, e⟩ := Z.g.ok.tok x k hx
  exact @st_builtin _ _ _ _ _ _ _ _ _ _ _ Z.g.tok.typeIs slot_dict_getitem.lookup (wpAny_getItem_of (strKind_is P31 w x t) Z.g.tok e (h _ _ Z.tok)) hs
theorem r_join {sep : Str} {ps : List Str} {D : Addr} {l : List (Str × Tok)} {n : Nat} {t : Tok} (Z : St w T s₀ env m mus news s) (hl : s.heap.get? D = some (lstO (strValues l).toArray n)) (ht : l.map (·.1) = ps) (hsz : (ps.map (·.length)).sum + ps.length * sep.length ≤ 2 ^ 20)
    (h : ∀ t s, St w T s₀ env m mus news s → Q (.str (Txt.join sep ps) t) s) : wpAny (model P31 w) A (call (.builtin "str.join") [.str sep t, .ref D]) Q E s :=
  @PySem.SC.join _ _ _ _ _ _ _ _ _ _ _ (isL_lst.list hl) ht (joinOk hsz) fun _ _ => h _ _ Z.tok
end
theorem sizeAt_from {l : List Nat} {n : Nat} (h1 : 1 ≤ n) (h3 : n ≤ 3) (hb : ∀ j, n < j → j ≤ 3 → (tok (l.take j)).isSome = false) (hs : n = 1 ∨ (tok (l.take n)).isSome = true) : sizeAt l = n := by
  unfold sizeAt
  rcases (show n = 1 ∨ n = 2 ∨ n = 3 by lia) with rfl | rfl | rfl
  · rw [if_neg (by rw [hb 3 (by lia) (by lia)]; decide), if_neg (by rw [hb 2 (by lia) (by lia)]; decide)]
  · rw [if_neg (by rw [hb 3 (by lia) (by omega)]; decide), if_pos (hs.elim (by lia) id)]
  · rw [if_pos (hs.elim (by lia) id)]
/-- what holds ahead of a turn of the outer loop -/
inductive RI (w : World) (T : Tops) (s₀ : Shared) (p : Str) (tp : Tok) (D2 : Addr) (n : Nat) (s : Shared) : Prop
  | mk (m : Str → Option Value) (news : List (Addr × Obj)) (us : List Value) (acc : List Int) (nn at' : Nat) (ta : Tok) (h0 : St w T s₀ (envF T 14 s₀.heap.objs.size) m [(D2, lstO (List.toArray us) nn)] news s) (h1 : m "plain" = some (.str p tp))
    (h2 : m "row" = some (.ref D2)) (h3 : m "at" = some (.int ((at' : Nat) : Int) ta)) (h4 : at' ≤ p.length) (h5 : n = p.length - at') (h6 : IntsAre us acc) (h7 : us.length ≤ at') (h8 : acc ++ readF n ((tl p).drop at') = readF p.length (tl p)) : RI w T s₀ p tp D2 n s
/-- what holds ahead of a turn of the inner loop -/
inductive RJ (w : World) (T : Tops) (s₀ : Shared) (p : Str) (tp : Tok) (D2 : Addr) (us : List Value) (nn : Nat) (news : List (Addr × Obj)) (at' : Nat) (ta : Tok) (l0 : List Nat) (k : Nat) (s : Shared) : Prop
  | mk (m : Str → Option Value) (ts : Tok) (h0 : St w T s₀ (envF T 14 s₀.heap.objs.size) m [(D2, lstO us.toArray nn)] news s) (h1 : m "plain" = some (.str p tp)) (h2 : m "row" = some (.ref D2)) (h3 : m "at" = some (.int (at' : Int) ta))
    (h4 : m "size" = some (.int (k : Int) ts)) (h5 : 1 ≤ k) (h6 : k ≤ 3) (h7 : ∀ j, k < j → j ≤ 3 → (tok (l0.take j)).isSome = false) : RJ w T s₀ p tp D2 us nn news at' ta l0 k s
section
variable {w : World} {T : Tops} {s₀ : Shared} {A : Around} {Q : Value → Shared → Prop}
noncomputable def whileBody : Stmt → List Stmt
  | .While _ b _ _ => b
  | _ => []
theorem tok_sub {x : Str} {a b : Nat} : tokTab.lookup (sub x a (a + b)) = tok (((tl x).drop a).take b) := by
  unfold tok sub; rw [Nat.add_sub_cancel_left]
theorem s_read {x : Str} {tx : Tok} (g : G w T s₀.heap) (room : A.depth + 1 < recursionLimit) (hh : A.handled = none) (hx : x.length ≤ 2 ^ 10)
    (h : ∀ s' d us n, Later w T s₀ s' → s'.heap.get? d = some (lstO (List.toArray us) n) → s₀.heap.get? d = none → IntsAre us (readF x.length ((tl x).map untag)) → Q (.ref d) s') :
    wpAny (model P31 w) A (call (.ref (T.f 14)) [.str x tx]) Q NoE s₀ := by
  refine call_fn (i := 14) (binds := [("text", .str x tx)]) (by decide) g (by lia) (by rfl) (by rfl) (by rfl) (fun s Z => ?_) (by rfl) (by rfl) (by rfl)
  refine @wp_hide _ _ _ _ _ _ _ fun Po hPo => ?_
  refine @wpAny_execs_cons _ _ _ _ _ _ _ _ <| @wpAny_Assign_Name _ _ _ _ _ _ _ _ _ _ ( @MethodCall_ _ _ _ _ _ _ _ _ _ _ _ _ ( @k_str _ _ _ _ _ _ _ _ _ _ _ _ _ _ Z fun t s Z => @PySem.GM.join _ _ _ _ _ _ _ _ <| @c_meth _ _ _ _ _ _ _ _ _ _ _ ( @a_cons _ _ _ _ _ _ _ _ _ ( Comp_ (cl := []) <| @ld _ _ _ _ _ _ _ _ _ _ _ _ Z _ rfl (?_) (by rfl) (by rfl) (by decide) (by decide)) (by rfl)) (by rfl) (by rfl)) (by rfl)) (by rfl)
  have hxs : x.cps.size ≤ 2 ^ 10 := hx
  refine @comp_str _ _ _ _ _ _ _ _ _ _ _ _ _ _ _ _ _ _ _ _ _ Z hh (by lia) (fun i ys _ => ∃ l : List (Str × Tok), ys = strValues l ∧ l.length = i ∧ (∀ p ∈ l, p.1.length = 1) ∧ (l.map fun p => tl p.1).flatten = ((tl x).take i).map untag) ⟨[], rfl, rfl, nofun, rfl⟩ ?_ ?_ (trivial) (by rfl) (by rfl) (by rfl)
  · intro C D i ys newsI oI nn c t s' hi hK hc Zc
    refine @goal_hide _ fun G hG => ?_
    obtain ⟨l, rfl, hll, h1, hl⟩ := hK
    refine hG ?_
    clear hG
    have hc2 : (tl x)[i]? = some c := by rw [Array.getElem?_toList]; exact hc
    refine @wpAny_tests_nil _ _ _ _ _ _ _ ?_
    rw [if_pos rfl]
    refine @wp_hide _ _ _ _ _ _ _ fun Pc hPc => ?_
    refine @IfExp_ _ _ _ _ _ _ _ _ _ _ <| @wpAny_isTrue_Compare1 _ _ _ _ _ _ _ _ _ _ _ ( @c_call _ _ _ _ _ _ _ _ _ _ <| @ldg _ _ _ _ _ _ _ _ _ _ _ _ Zc _ rfl ( r_callfn (i := 8) <| @a_cons _ _ _ _ _ _ _ _ _ ( @ld _ _ _ _ _ _ _ _ _ _ _ _ Zc _ rfl ( @args_nil _ _ _ _ _ _ _ ⟨(Zc.g.fn 8 (by decide)).1, ?_⟩) (by rfl) (by rfl) (by decide) (by decide)) (by rfl)) (by rfl) (by rfl) (by rfl) (by decide)) (by with_unfolding_all rfl)
    refine @s_inc9 _ _ _ _ _ _ _ Zc.g (by show A.depth + 1 < _; lia) fun s' lt => ?_
    have Zc := Zc.later lt
    have step : ∀ c' t', c' = untag c → (∃ l' : List (Str × Tok), strValues l ++ [.str ⟨#[c']⟩ t'] = strValues l' ∧ l'.length = i + 1 ∧ (∀ p ∈ l', p.1.length = 1) ∧ (l'.map fun p => tl p.1).flatten = ((tl x).take (i + 1)).map untag) := by
      rintro c' t' rfl
      refine ⟨l ++ [(⟨#[untag c]⟩, t')], by simp [strValues], by simp [hll], fun p hp => ?_, ?_⟩
      · rcases List.mem_append.mp hp with hp | hp
        · exact h1 p hp
        · rw [List.mem_singleton.mp hp]; rfl
      · rw [List.map_append, List.flatten_append, hl, List.take_add_one, hc2]
        simp
    refine @wpAny_Constant_bool _ _ _ _ _ _ _ _ _ <| @is_bool _ _ _ _ _ _ _ <| @wpAny_truthy_bool _ _ _ _ _ _ ?_
    by_cases hb : c9S (c : Int) = true
    · rw [if_pos (by rw [hb]; rfl)]
      have hge : 917504 ≤ c := by
        unfold c9S at hb
        simp at hb; lia
      have hle : c < 917632 := by
        unfold c9S at hb
        simp at hb; (clear room hx hxs hi hll hge; omega)
      refine @c_call _ _ _ _ _ _ _ _ _ _ <| @ldb _ _ _ _ _ _ _ _ _ _ _ _ Zc _ rfl ( @c_blt _ _ _ _ _ _ _ _ _ _ ( @a_cons _ _ _ _ _ _ _ _ _ ( @wpAny_BinOp _ _ _ _ _ _ _ _ _ _ <| @c_call _ _ _ _ _ _ _ _ _ _ <| @ldb _ _ _ _ _ _ _ _ _ _ _ _ Zc _ rfl ( @c_blt _ _ _ _ _ _ _ _ _ _ ( @a_cons _ _ _ _ _ _ _ _ _ ( @ld _ _ _ _ _ _ _ _ _ _ _ _ Zc _ rfl ( @args_nil _ _ _ _ _ _ _ <| @PySem.P.ord_of_char _ _ _ _ _ _ _ _ <| @k_int _ _ _ _ _ _ _ _ _ _ _ _ _ _ Zc.tok fun t s Zc => @r_sub _ _ _ _ _ _ _ _ _ _ _ _ _ _ _ Zc fun t s Zc => @args_nil _ _ _ _ _ _ _ <| @chr_of_range _ _ _ _ _ _ _ _ (by lia) (by lia) ?_) (by rfl) (by rfl) (by decide) (by decide)) (by rfl)) (by rfl) (by rfl)) (by rfl) (by rfl) (by rfl) (by rfl) (by decide)) (by rfl)) (by rfl) (by rfl)) (by rfl) (by rfl) (by rfl) (by rfl) (by decide)
      refine hPc _ _ ⟨_, Zc.tok, step _ _ ?_⟩
      unfold untag; rw [if_pos hb]; lia
    · rw [if_neg (by simpa using hb)]
      refine @ld _ _ _ _ _ _ _ _ _ _ _ _ Zc _ rfl ( hPc _ _ ⟨_, Zc, step _ _ ?_⟩) (by rfl) (by rfl) (by decide) (by decide)
      unfold untag; rw [if_neg hb]
  · rintro C D ys nn newsI s' mc ⟨l, rfl, hll, h1, hl⟩ Zc
    refine comp_end Z Zc fun s Z => @args_nil _ _ _ _ _ _ _ <| @r_join _ _ _ _ _ _ _ _ _ _ _ _ _ _ _ _ _ Z (Z.get (.head _)) rfl ?_ fun tp s Z => ?_
    · have : (l.map (·.1)).map (·.length) = List.replicate l.length 1 := by
        rw [List.map_map]
        refine List.eq_replicate_iff.mpr ⟨by simp, fun b hb => ?_⟩
        obtain ⟨p, hp, rfl⟩ := List.mem_map.mp hb
        exact h1 p hp
      rw [this, List.sum_replicate_nat]
      show l.length * 1 + (l.map (·.1)).length * 0 ≤ _
      lia
    have hpl : tl (Txt.join "" (l.map (·.1))) = (tl x).map untag := by
      rw [join0, List.map_map]
      have e : (tl x).take x.cps.size = tl x := List.take_of_length_le (by rw [tl_len]; exact Nat.le_refl _)
      rw [e] at hl
      exact hl
    obtain ⟨p, hp⟩ := hide_eq (Txt.join "" (l.map (·.1)))
    rw [hp] at hpl ⊢
    have hlen : p.length = x.length := by rw [← tl_len, hpl, List.length_map, tl_len]
    rw [← hpl, ← hlen] at h
    have hpx : p.length ≤ 2 ^ 10 := by lia
    refine @stl _ _ _ _ _ _ _ _ _ _ _ Z _ (fun s Z => ?_) (by rfl) (by rfl) (by rfl)
    refine @wpAny_execs_cons _ _ _ _ _ _ _ _ <| @wpAny_Assign_Name _ _ _ _ _ _ _ _ _ _ ( @List_ _ _ _ _ _ _ _ _ <| @args_nil _ _ _ _ _ _ _ <| @r_newlistM _ _ _ _ _ _ _ _ _ _ _ _ Z (by simp) fun D2 s Z => @stl _ _ _ _ _ _ _ _ _ _ _ Z _ (fun s Z => ?_) (by rfl) (by rfl) (by rfl)) (by rfl)
    refine @wpAny_execs_cons _ _ _ _ _ _ _ _ <| @wpAny_Assign_Name _ _ _ _ _ _ _ _ _ _ ( @k_int _ _ _ _ _ _ _ _ _ _ _ _ _ _ Z fun t s Z => @stl _ _ _ _ _ _ _ _ _ _ _ Z _ (fun s Z => ?_) (by rfl) (by rfl) (by rfl)) (by rfl)
    refine @wpAny_execs_cons _ _ _ _ _ _ _ _ <| @r_while _ _ _ _ _ _ _ _ (fun n s => RI w T s₀ p tp D2 n s) ?_ p.length ⟨_, _, [], [], _, 0, _, Z, rfl, rfl, rfl, Nat.zero_le _, rfl, .nil, Nat.le_refl _, rfl⟩
    intro n s hI
    refine @while_hide _ _ _ _ _ _ _ _ _ _ _ fun Pt Dt hPt hDt => @goal_hide _ fun G hG => ?_
    obtain ⟨m, news, us, acc, nn, at', ta, Z, m1, m2, m3, k1, rfl, k2, k3, k4⟩ := hI
    refine hG ?_
    clear hG
    have hul := k2.length
    refine @wpAny_isTrue_Compare1 _ _ _ _ _ _ _ _ _ _ _ ( @ld _ _ _ _ _ _ _ _ _ _ _ _ Z _ m3 ( @c_call _ _ _ _ _ _ _ _ _ _ <| @ldb _ _ _ _ _ _ _ _ _ _ _ _ Z _ rfl ( @c_blt _ _ _ _ _ _ _ _ _ _ ( @a_cons _ _ _ _ _ _ _ _ _ ( @ld _ _ _ _ _ _ _ _ _ _ _ _ Z _ m1 ( @args_nil _ _ _ _ _ _ _ <| @len_str _ _ _ _ _ _ _ _ (by lia) <| @lt_int _ _ _ _ _ _ _ _ _ _ <| @wpAny_truthy_bool _ _ _ _ _ _ ?_) (by rfl) (by rfl) (by decide) (by decide)) (by rfl)) (by rfl) (by rfl)) (by rfl) (by rfl) (by rfl) (by rfl) (by decide)) (by rfl) (by rfl) (by decide) (by decide)) (by with_unfolding_all rfl)
    have Z := Z.tok (t := s.toks + 1 + 1)
    by_cases hat : at' < p.length
    · rw [if_pos (by simp; (clear room hx hxs hll hlen hpx k1 k3 hul; lia))]
      refine @wpAny_execs_cons _ _ _ _ _ _ _ _ <| @wpAny_Assign_Name _ _ _ _ _ _ _ _ _ _ ( @k_int _ _ _ _ _ _ _ _ _ _ _ _ _ _ Z fun t s Z => @stl _ _ _ _ _ _ _ _ _ _ _ Z _ (fun s Z => ?_) (by rfl) (by rfl) (by rfl)) (by rfl)
      obtain ⟨l0, hl0⟩ := hide_eq ((tl p).drop at')
      rw [hl0] at k4
      have hll : l0.length = p.length - at' := by rw [← hl0, List.length_drop, tl_len]
      have tks : ∀ k, tokTab.lookup (sub p at' (at' + k)) = tok (l0.take k) := fun k => by rw [tok_sub, hl0]
      have hne : l0 ≠ [] := by
        intro q; rw [q] at hll; simp at hll; (clear room hx hxs hlen hpx k1 k3 hul; lia)
      have fin : ∀ (Post : Flow → Shared → Prop) (k : Nat) (ts : Tok) (m : Str → Option Value) (s : Shared), sizeAt l0 = k → m "plain" = some (.str p tp) → m "row" = some (.ref D2) → m "at" = some (.int (at' : Int) ta) → m "size" = some (.int (k : Int) ts) → St w T s₀ (envF T 14 s₀.heap.objs.size) m [(D2, lstO us.toArray nn)] news s →
          (∀ s, (∃ k, k < p.length - at' ∧ RI w T s₀ p tp D2 k s) → Post .next s) →
          wpAny (model P31 w) (A.deeper (envF T 14 s₀.heap.objs.size)) (execs ((whileBody ((fBody (fAt 14)).getD 3 (.Pass default))).drop 2) (envF T 14 s₀.heap.objs.size)) Post NoE s := by
        intro Post k ts m s hk m1 m2 m3 m4 Z hpost
        have hk1 := sizeAt_pos l0
        rw [hk] at hk1
        refine @wpAny_execs_cons _ _ _ _ _ _ _ _ <| @wpAny_Assign_Name _ _ _ _ _ _ _ _ _ _ ( @Subscript_ _ _ _ _ _ _ _ _ _ <| @ld _ _ _ _ _ _ _ _ _ _ _ _ Z _ m1 ( @wpAny_Slice _ _ _ _ _ _ _ _ _ _ <| @wpAny_evalPart_some _ _ _ _ _ _ _ <| @ld _ _ _ _ _ _ _ _ _ _ _ _ Z _ m3 ( @wpAny_evalPart_some _ _ _ _ _ _ _ <| @wpAny_BinOp _ _ _ _ _ _ _ _ _ _ <| @ld _ _ _ _ _ _ _ _ _ _ _ _ Z _ m3 ( @ld _ _ _ _ _ _ _ _ _ _ _ _ Z _ m4 ( @n_add _ _ _ _ _ _ _ _ _ _ _ _ _ _ _ Z fun t s Z => @wpAny_evalPart_none _ _ _ _ _ _ <| @sl_sub _ _ _ _ _ _ _ _ _ _ _ _ _ _ _ _ _ _ _ Z (by unfold sizeLine; lia) (fun tpc s Z => @stl _ _ _ _ _ _ _ _ _ _ _ Z _ (fun s Z => ?_) (by rfl) (by rfl) (by rfl)) (by with_unfolding_all rfl)) (by rfl) (by rfl) (by decide) (by decide)) (by rfl) (by rfl) (by decide) (by decide)) (by rfl) (by rfl) (by decide) (by decide)) (by rfl) (by rfl) (by decide) (by decide)) (by rfl)
        have hpc : tl (sub p at' (at' + k)) = l0.take k := by rw [tl_sub, hl0, Nat.add_sub_cancel_left]
        have hpcl : (sub p at' (at' + k)).length = min k (p.length - at') := by rw [← tl_len, hpc, List.length_take, hll]
        have step : ∀ (tt : Tok) (us' : List Value) (nn' : Nat) (m' : Str → Option Value) (s : Shared), IntsAre us' (acc ++ headT l0) → m' "plain" = some (.str p tp) → m' "row" = some (.ref D2) → m' "at" = some (.int (at' : Int) ta) → m' "piece" = some (.str (sub p at' (at' + k)) tpc) → St w T s₀ (envF T 14 s₀.heap.objs.size) m' [(D2, lstO us'.toArray nn')] news s →
            wpAny (model P31 w) (A.deeper (envF T 14 s₀.heap.objs.size)) (execs ((whileBody ((fBody (fAt 14)).getD 3 (.Pass default))).drop 4) (envF T 14 s₀.heap.objs.size)) Post NoE s := by
          intro tt us' nn' m' s hu' m1' m2' m3' m4' Z
          refine @wpAny_execs_cons _ _ _ _ _ _ _ _ <| @wpAny_Assign_Name _ _ _ _ _ _ _ _ _ _ ( @wpAny_BinOp _ _ _ _ _ _ _ _ _ _ <| @ld _ _ _ _ _ _ _ _ _ _ _ _ Z _ m3' ( @c_call _ _ _ _ _ _ _ _ _ _ <| @ldb _ _ _ _ _ _ _ _ _ _ _ _ Z _ rfl ( @c_blt _ _ _ _ _ _ _ _ _ _ ( @a_cons _ _ _ _ _ _ _ _ _ ( @ld _ _ _ _ _ _ _ _ _ _ _ _ Z _ m4' ( @args_nil _ _ _ _ _ _ _ <| @len_str _ _ _ _ _ _ _ _ (by (clear room hx hxs hlen hpx k1 k3 hul hat hll hk; lia)) <| @n_add _ _ _ _ _ _ _ _ _ _ _ _ _ _ _ Z.tok fun t s Z => @stl _ _ _ _ _ _ _ _ _ _ _ Z _ (fun s Z => @wpAny_execs_nil _ _ _ _ _ _ ?_) (by rfl) (by rfl) (by rfl)) (by rfl) (by rfl) (by decide) (by decide)) (by rfl)) (by rfl) (by rfl)) (by rfl) (by rfl) (by rfl) (by rfl) (by decide)) (by rfl) (by rfl) (by decide) (by decide)) (by rfl)
          have hhl : (headT l0).length ≤ 1 := by
            unfold headT
            split
            · exact Nat.le_refl _
            · split <;> simp
          have hul' := hu'.length
          rw [List.length_append] at hul'
          refine hpost _ ⟨_, ?_, _, _, us', _, nn', at' + (sub p at' (at' + k)).length, t, Z, m1', m2', rfl, by (clear room hx hxs hlen hpx k1 k3 hul hll hk hk1 hhl hul'; lia), rfl, hu', by (clear room hx hxs hlen hpx k1 hll hk; lia), ?_⟩
          · (clear room hx hxs hlen hpx k1 k3 hul hk hhl hul'; lia)
          · rw [← k4, List.append_assoc]
            congr 1
            have e1 : (tl p).drop (at' + (sub p at' (at' + k)).length) = l0.drop (sizeAt l0) := by
              rw [← List.drop_drop, hl0, hk, hpcl]
              rcases Nat.le_total k (p.length - at') with q | q
              · rw [Nat.min_eq_left q]
              · rw [Nat.min_eq_right q, List.drop_of_length_le (by lia), List.drop_of_length_le (by lia)]
            rw [e1]
            obtain ⟨k0, hk0⟩ : ∃ k0, p.length - at' = k0 + 1 := ⟨p.length - at' - 1, by (clear room hx hxs hlen hpx k1 k3 hul hll hk hk1 hpcl hhl hul'; lia)⟩
            rw [hk0, readF, if_neg hne]
            congr 1
            refine readF_fuel _ _ _ ?_ ?_
            · rw [List.length_drop, hll, hk, hpcl]; omega
            · rw [List.length_drop, hll, hk]; (clear room hx hxs hlen hpx k1 k3 hul hll hk hpcl hhl hul'; lia)
        refine @wpAny_execs_cons _ _ _ _ _ _ _ _ <| @wpAny_If _ _ _ _ _ _ _ _ _ _ <| @wpAny_isTrue_Compare1 _ _ _ _ _ _ _ _ _ _ _ ( @ld _ _ _ _ _ _ _ _ _ _ _ _ Z _ rfl ( @ldg _ _ _ _ _ _ _ _ _ _ _ _ Z _ rfl ( @r_inTok _ _ _ _ _ _ _ _ _ _ _ _ _ Z fun s Z => @wpAny_truthy_bool _ _ _ _ _ _ ?_) (by rfl) (by rfl) (by rfl) (by decide)) (by rfl) (by rfl) (by decide) (by decide)) (by with_unfolding_all rfl)
        rw [tks k]
        have hus : us.toArray.size ≤ 2 ^ 20 := by simp; lia
        cases htok : tok (l0.take k) with
        | some v =>
          rw [if_pos (show (some v).isSome = true from rfl)]
          refine @wpAny_execs_cons _ _ _ _ _ _ _ _ <| @wpAny_Expr _ _ _ _ _ _ _ _ ( @MethodCall_ _ _ _ _ _ _ _ _ _ _ _ _ ( @ld _ _ _ _ _ _ _ _ _ _ _ _ Z _ m2 ( @getMethod_list_append _ _ _ _ _ _ _ _ (Z.getM (.head _)) rfl rfl <| @c_meth _ _ _ _ _ _ _ _ _ _ _ ( @a_cons _ _ _ _ _ _ _ _ _ ( @Subscript_ _ _ _ _ _ _ _ _ _ <| @ldg _ _ _ _ _ _ _ _ _ _ _ _ Z _ rfl ( @ld _ _ _ _ _ _ _ _ _ _ _ _ Z _ rfl ( @r_getTok _ _ _ _ _ _ _ _ _ _ _ _ _ _ _ _ Z (by rw [tks k]; exact htok) (fun t s Z => @args_nil _ _ _ _ _ _ _ <| @r_append _ _ _ _ _ _ _ _ _ _ _ _ _ _ _ Z hus fun n s Z => @wpAny_execs_nil _ _ _ _ _ _ ?_) (by with_unfolding_all rfl)) (by rfl) (by rfl) (by decide) (by decide)) (by rfl) (by rfl) (by rfl) (by decide)) (by rfl)) (by rfl) (by rfl)) (by rfl) (by rfl) (by decide) (by decide)) (by rfl)) (by rfl) (by rfl)
          rw [List.push_toArray] at Z
          exact step t _ n (upd m "piece" _) _ (by
            have : headT l0 = [v] := by unfold headT; rw [hk, htok]
            rw [this]; exact ints_snoc k2) m1 m2 m3 rfl Z
        | none =>
          rw [if_neg (show ¬ (none : Option Int).isSome = true by simp)]
          have hk11 : k = 1 := by
            have hz : sizeAt l0 = 1 := by
              unfold sizeAt
              rcases (show k = 1 ∨ k = 2 ∨ k = 3 by lia) with rfl | rfl | rfl
              · unfold sizeAt at hk; exact hk
              · exfalso
                unfold sizeAt at hk
                split at hk
                · lia
                · split at hk
                  · rename_i q; rw [htok] at q; cases q
                  · lia
              · exfalso
                unfold sizeAt at hk
                split at hk
                · rename_i q; rw [htok] at q; cases q
                · split at hk <;> lia
            lia
          subst hk11
          obtain ⟨c, r0, hc0⟩ : ∃ c r0, l0 = c :: r0 := by
            cases l0 with
            | nil => exact absurd rfl hne
            | cons c r0 => exact ⟨c, r0, rfl⟩
          have hsc : sub p at' (at' + 1) = ⟨#[c]⟩ := tl_inj (by rw [hpc, hc0]; rfl)
          have hh0 : l0.headD 0 = c := by rw [hc0]; rfl
          rw [hsc] at Z step
          refine @wpAny_execs_cons _ _ _ _ _ _ _ _ <| @wpAny_If _ _ _ _ _ _ _ _ _ _ <| @wpAny_isTrue_Compare1 _ _ _ _ _ _ _ _ _ _ _ ( @c_call _ _ _ _ _ _ _ _ _ _ <| @ldg _ _ _ _ _ _ _ _ _ _ _ _ Z _ rfl ( r_callfn (i := 7) <| @a_cons _ _ _ _ _ _ _ _ _ ( @ld _ _ _ _ _ _ _ _ _ _ _ _ Z _ rfl ( @args_nil _ _ _ _ _ _ _ ⟨(Z.g.fn 7 (by decide)).1, ?_⟩) (by rfl) (by rfl) (by decide) (by decide)) (by rfl)) (by rfl) (by rfl) (by rfl) (by decide)) (by with_unfolding_all rfl)
          refine @s_inb1 _ _ _ _ _ _ _ Z.g (by show A.depth + 1 < _; lia) fun s' lt => ?_
          have Z := Z.later lt
          refine @wpAny_Constant_bool _ _ _ _ _ _ _ _ _ <| @isnot_bool _ _ _ _ _ _ _ <| @wpAny_truthy_bool _ _ _ _ _ _ ?_
          cases hb : b1S (c : Int) with
          | true =>
            rw [if_neg (by decide)]
            refine @wpAny_execs_nil _ _ _ _ _ _ <| @wpAny_execs_nil _ _ _ _ _ _ ?_
            exact step ts us nn (upd m "piece" _) _ (by
              have : headT l0 = [] := by unfold headT; rw [hk, htok, hh0, hb]; rfl
              rw [this, List.append_nil]; exact k2) m1 m2 m3 rfl Z
          | false =>
            rw [if_pos (by decide)]
            refine @wpAny_execs_cons _ _ _ _ _ _ _ _ <| @wpAny_Expr _ _ _ _ _ _ _ _ ( @MethodCall_ _ _ _ _ _ _ _ _ _ _ _ _ ( @ld _ _ _ _ _ _ _ _ _ _ _ _ Z _ m2 ( @getMethod_list_append _ _ _ _ _ _ _ _ (Z.getM (.head _)) rfl rfl <| @c_meth _ _ _ _ _ _ _ _ _ _ _ ( @a_cons _ _ _ _ _ _ _ _ _ ( @wpAny_BinOp _ _ _ _ _ _ _ _ _ _ <| @k_int _ _ _ _ _ _ _ _ _ _ _ _ _ _ Z fun t s Z => @c_call _ _ _ _ _ _ _ _ _ _ <| @ldb _ _ _ _ _ _ _ _ _ _ _ _ Z _ rfl ( @c_blt _ _ _ _ _ _ _ _ _ _ ( @a_cons _ _ _ _ _ _ _ _ _ ( @ld _ _ _ _ _ _ _ _ _ _ _ _ Z _ rfl ( @args_nil _ _ _ _ _ _ _ <| @PySem.P.ord_of_char _ _ _ _ _ _ _ _ <| @r_add _ _ _ _ _ _ _ _ _ _ _ _ _ _ _ Z.tok fun t s Z => @args_nil _ _ _ _ _ _ _ <| @r_append _ _ _ _ _ _ _ _ _ _ _ _ _ _ _ Z hus fun n s Z => @wpAny_execs_nil _ _ _ _ _ _ <| @wpAny_execs_nil _ _ _ _ _ _ ?_) (by rfl) (by rfl) (by decide) (by decide)) (by rfl)) (by rfl) (by rfl)) (by rfl) (by rfl) (by rfl) (by rfl) (by decide)) (by rfl)) (by rfl) (by rfl)) (by rfl) (by rfl) (by decide) (by decide)) (by rfl)) (by rfl) (by rfl)
            rw [List.push_toArray] at Z
            exact step t _ n (upd m "piece" _) _ (by
              have : headT l0 = [159 + (c : Int)] := by unfold headT; rw [hk, htok, hh0, hb]; rfl
              rw [this]; exact ints_snoc k2) m1 m2 m3 rfl Z
      refine @wpAny_execs_cons _ _ _ _ _ _ _ _ <| @r_while _ _ _ _ _ _ _ _ (fun k s => RJ w T s₀ p tp D2 us nn news at' ta l0 k s) ?_ 3
        ⟨_, _, Z, m1, m2, m3, rfl, by decide, by decide, fun j h1 h2 => by lia⟩
      intro k s hI
      refine @while_hide _ _ _ _ _ _ _ _ _ _ _ fun Pk Dk hPk hDk => @goal_hide _ fun G hG => ?_
      obtain ⟨m, ts, Z, m1, m2, m3, m4, q1, q2, q3⟩ := hI
      refine hG ?_
      clear hG
      refine @isTrue_and _ _ _ _ _ _ _ _ _ _ <| @wpAny_isTrue_Compare1 _ _ _ _ _ _ _ _ _ _ _ ( @ld _ _ _ _ _ _ _ _ _ _ _ _ Z _ m4 ( @k_int _ _ _ _ _ _ _ _ _ _ _ _ _ _ Z fun t s Z => @gt_int _ _ _ _ _ _ _ _ _ _ <| @wpAny_truthy_bool _ _ _ _ _ _ ?_) (by rfl) (by rfl) (by decide) (by decide)) (by with_unfolding_all rfl)
      by_cases hk1 : 1 < k
      · rw [if_pos (by simp; lia)]
        refine @isTrue_and _ _ _ _ _ _ _ _ _ _ <| @wpAny_isTrue_Compare1 _ _ _ _ _ _ _ _ _ _ _ ( @Subscript_ _ _ _ _ _ _ _ _ _ <| @ld _ _ _ _ _ _ _ _ _ _ _ _ Z _ m1 ( @wpAny_Slice _ _ _ _ _ _ _ _ _ _ <| @wpAny_evalPart_some _ _ _ _ _ _ _ <| @ld _ _ _ _ _ _ _ _ _ _ _ _ Z _ m3 ( @wpAny_evalPart_some _ _ _ _ _ _ _ <| @wpAny_BinOp _ _ _ _ _ _ _ _ _ _ <| @ld _ _ _ _ _ _ _ _ _ _ _ _ Z _ m3 ( @ld _ _ _ _ _ _ _ _ _ _ _ _ Z _ m4 ( @n_add _ _ _ _ _ _ _ _ _ _ _ _ _ _ _ Z fun t s Z => @wpAny_evalPart_none _ _ _ _ _ _ <| @sl_sub _ _ _ _ _ _ _ _ _ _ _ _ _ _ _ _ _ _ _ Z (by unfold sizeLine; omega) (fun t s Z => @ldg _ _ _ _ _ _ _ _ _ _ _ _ Z _ rfl ( @r_notInTok _ _ _ _ _ _ _ _ _ _ _ _ _ Z fun s Z => @wpAny_truthy_bool _ _ _ _ _ _ ?_) (by rfl) (by rfl) (by rfl) (by decide)) (by with_unfolding_all rfl)) (by rfl) (by rfl) (by decide) (by decide)) (by rfl) (by rfl) (by decide) (by decide)) (by rfl) (by rfl) (by decide) (by decide)) (by rfl) (by rfl) (by decide) (by decide)) (by with_unfolding_all rfl)
        rw [tks k]
        cases htok : tok (l0.take k) with
        | none =>
          rw [if_pos (show (!(none : Option Int).isSome) = true from rfl)]
          refine @isTrue_and_nil _ _ _ _ _ _ _ _ ?_
          rw [if_pos rfl]
          refine @wpAny_execs_cons _ _ _ _ _ _ _ _ <| @wpAny_Assign_Name _ _ _ _ _ _ _ _ _ _ ( @wpAny_BinOp _ _ _ _ _ _ _ _ _ _ <| @ld _ _ _ _ _ _ _ _ _ _ _ _ Z _ m4 ( @k_int _ _ _ _ _ _ _ _ _ _ _ _ _ _ Z fun t s Z => n_sub (b := 1) (by lia) Z fun t s Z => @stl _ _ _ _ _ _ _ _ _ _ _ Z _ (fun s Z => @wpAny_execs_nil _ _ _ _ _ _ ?_) (by rfl) (by rfl) (by rfl)) (by rfl) (by rfl) (by decide) (by decide)) (by rfl)
          refine hPk _ _ ⟨k - 1, by lia, _, t, Z, m1, m2, m3, rfl, by lia, by lia, fun j h1 h2 => ?_⟩
          rcases Nat.lt_or_eq_of_le (show k ≤ j by lia) with hj | rfl
          · exact q3 j hj h2
          · rw [htok]; rfl
        | some v =>
          rw [if_neg (by simp), if_neg (by decide)]
          exact hDk _ <| fin _ k ts _ _ (sizeAt_from q1 q2 q3 (.inr (by rw [htok]; rfl))) m1 m2 m3 m4 Z fun s hs => hPt _ _ hs
      · rw [if_neg (by simp; lia), if_neg (by decide)]
        exact hDk _ <| fin _ k ts _ _ (sizeAt_from q1 q2 q3 (.inl (by lia))) m1 m2 m3 m4 Z fun s hs => hPt _ _ hs
    · rw [if_neg (by simp; (clear room hx hxs hll hlen hpx k3 hul; lia))]
      refine hDt _ ?_
      have hz : at' = p.length := by (clear room hx hxs hll hlen hpx k3 hul; lia)
      subst hz
      rw [Nat.sub_self] at k4
      have k4 : acc = readF p.length (tl p) := by rw [← k4]; show acc = acc ++ []; simp
      have Z := Z.freeze
      refine @wpAny_execs_cons _ _ _ _ _ _ _ _ <| @wpAny_Return_some _ _ _ _ _ _ _ _ <| @ld _ _ _ _ _ _ _ _ _ _ _ _ Z _ m2 (?_) (by rfl) (by rfl) (by decide) (by decide)
      exact hPo _ _ <| h _ _ _ _ Z.done (Z.get (.head _)) (Z.nw _ (.head _)).2.2.2.1 (k4 ▸ k2)
end
end Mine
namespace Mine
open PySem PySem.W
/-! reading what was drawn -/
theorem c9_low {c : Nat} (h : c < 917505) : c9S (c : Int) = false := by
  unfold c9S; simp; lia
theorem untag_low {c : Nat} (h : c < 917505) : untag c = c := by unfold untag; rw [c9_low h]; rfl
theorem untag_tagc {x : Int} {k c : Nat} (h : 33 ≤ c ∧ c < 127) : untag (tagc x k c) = c := by
  unfold tagc
  split
  · unfold untag
    have : c9S ((917504 + c : Nat) : Int) = true := by unfold c9S; simp; lia
    rw [if_pos this]; lia
  · exact untag_low (by lia)
theorem unseen_ok : ∀ p, p < 27 → 127 ≤ unseen p ∧ unseen p < 917505 ∧ b1S (unseen p : Nat) = true := by decide +kernel
theorem tab_ok : ∀ e ∈ tokTab, tl e.1 ≠ [] ∧ ∀ c ∈ tl e.1, (33 ≤ c ∧ c < 97) ∨ (123 ≤ c ∧ c < 127) := by decide +kernel
theorem tok_words : ∀ k, k < 48 → tok (wordsL.getD k []) = some (7 + (k : Int)) := by decide +kernel
theorem tok_ok {p : List Nat} {v : Int} (h : tok p = some v) : p ≠ [] ∧ ∀ c ∈ p, (33 ≤ c ∧ c < 97) ∨ (123 ≤ c ∧ c < 127) := tab_ok _ (lookup_mem' h)
theorem tok_none {p : List Nat} {c : Nat} (hc : c ∈ p) (h : ¬ ((33 ≤ c ∧ c < 97) ∨ (123 ≤ c ∧ c < 127))) : tok p = none := by
  cases e : tok p with
  | none => rfl
  | some v => exact absurd ((tok_ok e).2 c hc) h
noncomputable def R (l : List Nat) : List Int := readF l.length l
theorem R_step {l : List Nat} (h : l ≠ []) : R l = headT l ++ R (l.drop (sizeAt l)) := by
  unfold R
  obtain ⟨k, hk⟩ : ∃ k, l.length = k + 1 := ⟨l.length - 1, by have := List.length_pos_iff.mpr h; lia⟩
  have := sizeAt_pos l
  rw [hk, readF, if_neg h, readF_fuel k _ _ (by rw [List.length_drop]; omega) (Nat.le_refl _)]
theorem size_one {c : Nat} {r : List Nat} (h : ¬ ((33 ≤ c ∧ c < 97) ∨ (123 ≤ c ∧ c < 127))) : sizeAt (c :: r) = 1 ∧ tok [c] = none := by
  refine ⟨sizeAt_from (Nat.le_refl _) (by lia) (fun j h1 h2 => ?_) (.inl rfl), tok_none (List.mem_singleton.mpr rfl) h⟩
  rw [tok_none (c := c) ?_ h]; rfl
  obtain ⟨j, rfl⟩ : ∃ i, j = i + 1 := ⟨j - 1, by lia⟩
  rw [List.take_succ_cons]; exact List.mem_cons_self ..
theorem R_sep {u : Nat} {r : List Nat} (h : 127 ≤ u) (hb : b1S (u : Int) = true) : R (u :: r) = R r := by
  obtain ⟨h1, h2⟩ := size_one (c := u) (r := r) (by lia)
  rw [R_step (by simp), h1]
  have : headT (u :: r) = [] := by
    unfold headT
    rw [h1, show (u :: r).take 1 = [u] from rfl, h2]
    show (if b1S (u : Nat) then _ else _) = _
    rw [hb]; rfl
  rw [this]; rfl
theorem b1_letter {c : Nat} (h : 97 ≤ c ∧ c < 123) : b1S (c : Int) = false := by
  obtain ⟨k, rfl⟩ : ∃ k, c = 97 + k := ⟨c - 97, by omega⟩
  have : ∀ k, k < 26 → b1S ((97 + k : Nat) : Int) = false := by decide
  exact this k (by lia)
theorem R_letter {c : Nat} {r : List Nat} (h : 97 ≤ c ∧ c < 123) : R (c :: r) = (159 + (c : Int)) :: R r := by
  obtain ⟨h1, h2⟩ := size_one (c := c) (r := r) (by lia)
  rw [R_step (by simp), h1]
  have : headT (c :: r) = [159 + (c : Int)] := by
    unfold headT
    rw [h1, show (c :: r).take 1 = [c] from rfl, h2]
    show (if b1S (c : Nat) then _ else _) = _
    rw [b1_letter h]; rfl
  rw [this]; rfl
theorem R_op {k u : Nat} {r : List Nat} (hk : k < 48) (h : 127 ≤ u) (hb : b1S (u : Int) = true) : R (wordsL.getD k [] ++ u :: r) = (7 + (k : Int)) :: R r := by
  obtain ⟨w1, w2, w3⟩ := words_ok _ (words_at hk)
  have ht := tok_words k hk
  generalize wordsL.getD k [] = P at *
  have hp : 0 < P.length := List.length_pos_iff.mpr w2
  have hsz : sizeAt (P ++ u :: r) = P.length := by
    refine sizeAt_from hp w1 (fun j h1 h2 => ?_) (.inr (by rw [List.take_left, ht]; rfl))
    rw [tok_none (c := u) ?_ (by (clear hk w1 hp h1 h2; omega))]; rfl
    rw [List.take_append]
    refine List.mem_append_right _ ?_
    obtain ⟨i, hi⟩ : ∃ i, j - P.length = i + 1 := ⟨j - P.length - 1, by lia⟩
    rw [hi, List.take_succ_cons]; exact List.mem_cons_self ..
  rw [R_step (by simp), hsz, List.drop_left, R_sep h hb]
  have : headT (P ++ u :: r) = [7 + (k : Int)] := by
    unfold headT; rw [hsz, List.take_left, ht]
  rw [this]; rfl
theorem mapIdx_untag {x : Int} {p : List Nat} (h : ∀ c ∈ p, 33 ≤ c ∧ c < 127) : (p.mapIdx (fun k c => tagc x k c)).map untag = p := by
  refine List.ext_getElem? fun i => ?_
  rw [List.getElem?_map, List.getElem?_mapIdx]
  cases hi : p[i]? with
  | none => rfl
  | some c => exact congrArg some (untag_tagc (h c (List.mem_of_getElem? hi)))
theorem R_cells (m : Int) : ∀ cs : List Int, R (((cs.map (cellT m)).flatten).map untag) = cs.map fun x => (stk m (x % 3).toNat).2
  | [] => rfl
  | x :: cs => by
    have ih := R_cells m cs
    rw [List.map_cons, List.flatten_cons, List.map_append, List.map_cons, ← ih]
    generalize ((cs.map (cellT m)).flatten).map untag = rest
    unfold cellT
    obtain ⟨_, _, s3⟩ := stk_ok m (x % 3).toNat
    rw [List.map_append, mapIdx_untag s3]
    obtain ⟨u1, u2, u3⟩ := unseen_ok (x / 24 % 27).toNat (by lia)
    generalize unseen (x / 24 % 27).toNat = u at *
    have hsep : (if (stk m (x % 3).toNat).2 < 256 ∨ x / 648 % 2 = 1 then [u] else []).map untag = if (stk m (x % 3).toNat).2 < 256 ∨ x / 648 % 2 = 1 then [u] else [] := by
      split
      · show [untag u] = [u]; rw [untag_low u2]
      · rfl
    rw [hsep]
    have h3 : (x % 3).toNat = 0 ∨ (x % 3).toNat = 1 ∨ (x % 3).toNat = 2 := by lia
    rcases h3 with e | e | e <;> rw [e]
    · have : (stk m 0).2 < 256 := by show (7 + (fOf m : Int)) < 256; have := fOf_lt m; lia
      rw [if_pos (.inl this), List.append_assoc]
      exact R_op (fOf_lt m) u1 u3
    · have : (stk m 1).2 < 256 := by show (7 + (sOf m : Int)) < 256; have := sOf_lt m; lia
      rw [if_pos (.inl this), List.append_assoc]
      exact R_op (sOf_lt m) u1 u3
    · have hl : R ([cOf m] ++ (if (stk m 2).2 < 256 ∨ x / 648 % 2 = 1 then [u] else []) ++ rest) = (159 + (cOf m : Int)) :: R ((if (stk m 2).2 < 256 ∨ x / 648 % 2 = 1 then [u] else []) ++ rest) := by
        rw [List.append_assoc]; exact R_letter (cOf_ok m)
      refine hl.trans ?_
      show _ :: _ = _ :: _
      congr 1
      split
      · exact R_sep u1 u3
      · rfl
theorem read_drawn (script : List Int) {x : Str} (h : tl x = textD script) : readF x.length ((tl x).map untag) = rowD script := by
  have := R_cells (mk script) (cellsD script)
  unfold R at this
  rw [show ((cellsD script).map (cellT (mk script))).flatten = textD script from rfl, ← h, List.length_map, tl_len] at this
  exact this
end Mine
namespace Mine
open PySem
theorem pow_split {w k : Nat} {ds : List Nat} (hk : k ≤ ds.length) : dval w ds = dval w (ds.take k) + 2 ^ (w * k) * dval w (ds.drop k) := by
  conv => lhs; rw [← List.take_append_drop k ds]
  rw [dval_append, List.length_take, Nat.min_eq_left hk]
theorem take_lt {w k : Nat} {ds : List Nat} (h : ∀ d ∈ ds, d < 2 ^ w) (hk : k ≤ ds.length) : dval w (ds.take k) < 2 ^ (w * k) := by
  have := dval_lt w (ds.take k) fun d hd => h d (List.mem_of_mem_take hd)
  rw [List.length_take, Nat.min_eq_left hk] at this
  exact this
theorem dval_inj {w : Nat} : ∀ {a b : List Nat}, a.length = b.length → (∀ d ∈ a, d < 2 ^ w) → (∀ d ∈ b, d < 2 ^ w) → dval w a = dval w b → a = b
  | [], [], _, _, _, _ => rfl
  | [], _ :: _, h, _, _, _ => by simp at h
  | _ :: _, [], h, _, _, _ => by simp at h
  | x :: a, y :: b, h, ha, hb, e => by
    have e : x + 2 ^ w * dval w a = y + 2 ^ w * dval w b := e
    have hx := ha x (List.mem_cons_self ..)
    have hy := hb y (List.mem_cons_self ..)
    have h1 : (x + 2 ^ w * dval w a) % 2 ^ w = x := by rw [Nat.add_mul_mod_self_left, Nat.mod_eq_of_lt hx]
    have h2 : (y + 2 ^ w * dval w b) % 2 ^ w = y := by rw [Nat.add_mul_mod_self_left, Nat.mod_eq_of_lt hy]
    have hxy : x = y := by rw [← h1, e, h2]
    subst hxy
    have h3 : dval w a = dval w b := Nat.eq_of_mul_eq_mul_left (Nat.two_pow_pos w) (by lia)
    rw [dval_inj (by simpa using h) (fun d hd => ha d (.tail _ hd)) (fun d hd => hb d (.tail _ hd)) h3]
/-- the quotient and the rest of the number that the row makes -/
theorem quot_rest {w k : Nat} {ds : List Nat} {S : Nat} {q r : Int} (h : ∀ d ∈ ds, d < 2 ^ w) (hk : k ≤ ds.length) (hS : 0 < S) (hfd : FD ((dval w ds * S : Nat) : Int) ((S * 2 ^ (w * k) : Nat) : Int) q r) :
    q = (dval w (ds.drop k) : Nat) ∧ r = (S * dval w (ds.take k) : Nat) := by
  obtain ⟨h1, h2⟩ := hfd
  have hb : 0 < S * 2 ^ (w * k) := Nat.mul_pos hS (Nat.two_pow_pos _)
  have h2 : 0 ≤ r ∧ r < ((S * 2 ^ (w * k) : Nat) : Int) := by omega
  have hsp := pow_split (w := w) hk
  have hlt := take_lt h hk
  generalize hT : dval w (ds.take k) = t at *
  generalize hQ : dval w (ds.drop k) = v at *
  have hSt : S * t < S * 2 ^ (w * k) := Nat.mul_lt_mul_of_pos_left hlt hS
  have e : (dval w ds * S : Nat) = v * (S * 2 ^ (w * k)) + S * t := by
    rw [hsp, Nat.add_mul, Nat.mul_comm t S, Nat.add_comm]
    congr 1
    rw [Nat.mul_comm (2 ^ (w * k)) v, Nat.mul_assoc, Nat.mul_comm (2 ^ (w * k)) S]
  rw [e] at h1
  generalize S * 2 ^ (w * k) = B at *
  generalize S * t = t' at *
  have h1 : q * B + r = v * B + t' := by rw [h1]; push_cast; rfl
  have hq : q = v := by
    rcases Int.lt_trichotomy q v with hh | hh | hh
    · have : (q + 1) * B ≤ v * B := Int.mul_le_mul_of_nonneg_right (by lia) (by lia)
      rw [Int.add_mul, Int.one_mul] at this; lia
    · exact hh
    · have : ((v : Int) + 1) * B ≤ q * B := Int.mul_le_mul_of_nonneg_right (by lia) (by omega)
      rw [Int.add_mul, Int.one_mul] at this; lia
  subst hq
  exact ⟨rfl, by lia⟩
theorem head_digit {w k : Nat} {ds : List Nat} (h : ∀ d ∈ ds, d < 2 ^ w) (hk : k < ds.length) : dval w (ds.drop k) % 2 ^ w = ds.getD k 0 := by
  rw [List.drop_eq_getElem_cons hk]
  show (ds[k] + 2 ^ w * _) % 2 ^ w = _
  rw [Nat.add_mul_mod_self_left, Nat.mod_eq_of_lt (h _ (List.getElem_mem hk)), List.getD_eq_getElem?_getD, List.getElem?_eq_getElem hk]; rfl
theorem per_iff_drop {α : Type} {x : List α} {p : Nat} (hp : p ≤ x.length) : Per x p ↔ x.drop p = x.take (x.length - p) := by
  constructor
  · intro h
    refine List.ext_getElem? fun i => ?_
    rw [List.getElem?_drop, List.getElem?_take]
    split
    · rw [h i (by omega), Nat.add_comm]
    · rw [List.getElem?_eq_none (by omega)]
  · intro h i hi
    have := congrArg (·[i]?) h
    simp only [List.getElem?_drop, List.getElem?_take] at this
    rw [if_pos (by omega), Nat.add_comm] at this
    exact this.symm
theorem per_reverse {α : Type} {x : List α} {p : Nat} (h : Per x p) : Per x.reverse p := by
  intro i hi
  rw [List.length_reverse] at hi
  rw [List.getElem?_reverse (by lia), List.getElem?_reverse (by lia)]
  have := h (x.length - 1 - (i + p)) (by omega)
  rw [this]; congr 1; omega
theorem per_reverse_iff {α : Type} {x : List α} {p : Nat} : Per x.reverse p ↔ Per x p :=
  ⟨fun h => by have := per_reverse h; rw [List.reverse_reverse] at this; exact this, per_reverse⟩
theorem per_map {α β : Type} {x : List α} {f : α → β} (hf : ∀ a ∈ x, ∀ b ∈ x, f a = f b → a = b) {p : Nat} : Per (x.map f) p ↔ Per x p := by
  constructor
  · intro h i hi
    have := h i (by rw [List.length_map]; exact hi)
    rw [List.getElem?_map, List.getElem?_map, List.getElem?_eq_getElem hi, List.getElem?_eq_getElem (show i < x.length by omega)] at this
    rw [List.getElem?_eq_getElem hi, List.getElem?_eq_getElem (show i < x.length by omega)]
    exact congrArg some (hf _ (List.getElem_mem _) _ (List.getElem_mem _) (Option.some.inj this))
  · intro h i hi
    rw [List.length_map] at hi
    rw [List.getElem?_map, List.getElem?_map, h i hi]
/-- the test of a period by quotient and rest -/
theorem per_digits {w p S : Nat} {ds : List Nat} (h : ∀ d ∈ ds, d < 2 ^ w) (hp : p ≤ ds.length) (hS : 0 < S) : dval w (ds.drop p) * S = S * dval w (ds.take (ds.length - p)) ↔ Per ds p := by
  rw [per_iff_drop hp]
  constructor
  · intro e
    refine dval_inj (by rw [List.length_drop, List.length_take]; lia) (fun d hd => h d (List.mem_of_mem_drop hd)) (fun d hd => h d (List.mem_of_mem_take hd)) ?_
    rw [Nat.mul_comm] at e
    exact Nat.eq_of_mul_eq_mul_left hS e
  · intro e; rw [e, Nat.mul_comm]
end Mine
namespace Mine
open PySem PySem.W PySem.Builtin.Str
/-- the first k signs; the signs from k on -/
noncomputable def tk (x : Str) (k : Nat) : Str := ⟨((tl x).take k).toArray⟩
noncomputable def dk (x : Str) (k : Nat) : Str := ⟨((tl x).drop k).toArray⟩
theorem tl_tk {x : Str} {k : Nat} : tl (tk x k) = (tl x).take k := rfl
theorem tl_dk {x : Str} {k : Nat} : tl (dk x k) = (tl x).drop k := rfl
theorem tk_dotless {x : Str} {k : Nat} (h : dotless x) : dotless (tk x k) := fun hm => h (List.mem_of_mem_take hm)
theorem dk_dotless {x : Str} {k : Nat} (h : dotless x) : dotless (dk x k) := fun hm => h (List.mem_of_mem_drop hm)
theorem tk_len {x : Str} {k : Nat} : (tk x k).length = min k x.length := by rw [← tl_len, tl_tk, List.length_take, tl_len]
theorem dk_len {x : Str} {k : Nat} : (dk x k).length = x.length - k := by rw [← tl_len, tl_dk, List.length_drop, tl_len]
theorem twice_iff {p y : Str} (hd : dotless p) : ellM (p ++ dots ++ p) y = true ↔ At (tl y) (tl p) 0 ∧ At (tl y) (tl p) (y.length - p.length) ∧ p.length + p.length ≤ y.length := by
  rw [ellM_jn twice_jn (fun z hz => by
    have : z = p := by simpa using hz
    rw [this]; exact hd)]
  rw [show [p, p] = p :: ([] ++ [p]) from rfl, top_iff]
  exact ⟨fun h => ⟨h.1, h.2.1, h.2.2.1⟩, fun h => ⟨h.1, h.2.1, h.2.2, trivial⟩⟩
theorem rdAt_iff {x : Str} {c k : Nat} (hd : dotless x) (hc : c ≤ x.length) (h1 : 1 ≤ k) (hk : k ≤ x.length) : rdAt x c k = true ↔ LPer (tl x) c k := by
  unfold rdAt
  obtain ⟨a, ha⟩ := hide_eq (c - k)
  obtain ⟨b, hb⟩ := hide_eq (min c (x.length - k))
  rw [ha, hb]
  have a1 : a ≤ c := by clear hb h1 hk hc; lia
  have a2 : c ≤ a + k := by clear hb h1 hk hc; lia
  have a3 : c - k ≤ a := Nat.le_of_eq ha
  have a4 : ∀ i, c - k ≤ i → a ≤ i := fun i hi => ha ▸ hi
  have b1 : b ≤ c := by rw [← hb]; exact Nat.min_le_left ..
  have b2 : b + k ≤ x.length := by
    have := Nat.min_le_right c (x.length - k)
    rw [hb] at this
    clear hb ha h1 hc a1 a2 a3 b1
    lia
  have b3 : ∀ i, i < c → i + k < x.length → i < b := fun i g1 g2 => by
    rw [← hb]
    exact Nat.lt_min.mpr ⟨g1, by clear hb ha hc a1 a2 a3 b1 b2 g1; lia⟩
  have ab : a ≤ b := by
    rw [← hb]
    exact Nat.le_min.mpr ⟨a1, by rw [← ha]; exact Nat.sub_le_sub_right hc k⟩
  clear ha hb
  obtain ⟨d, rfl⟩ := Nat.exists_eq_add_of_le ab
  have dk : d ≤ k := Nat.le_of_add_le_add_left (Nat.le_trans b1 a2)
  rw [twice_iff (sub_dotless hd)]
  have hpl : (sub x a (a + d)).length = d := by rw [← tl_len, tl_sub, List.length_take, List.length_drop, tl_len, Nat.add_sub_cancel_left]; exact Nat.min_eq_left (by clear h1 hk hc a1 a2 a3 b1 b3 ab; lia)
  have hyl : (sub x a (a + d + k)).length = d + k := by rw [← tl_len, tl_sub, List.length_take, List.length_drop, tl_len, Nat.add_assoc, Nat.add_sub_cancel_left]; exact Nat.min_eq_left (by clear h1 hk hc a1 a2 a3 b1 b3 ab hpl; lia)
  have gp : ∀ i, i < d → (tl (sub x a (a + d)))[i]? = (tl x)[a + i]? := fun i hi => by rw [tl_sub, Nat.add_sub_cancel_left, List.getElem?_take_of_lt hi, List.getElem?_drop]
  have gy : ∀ i, i < d + k → (tl (sub x a (a + d + k)))[i]? = (tl x)[a + i]? := fun i hi => by rw [tl_sub, Nat.add_assoc, Nat.add_sub_cancel_left, List.getElem?_take_of_lt hi, List.getElem?_drop]
  rw [hpl, hyl, Nat.add_sub_cancel_left]
  constructor
  · rintro ⟨_, h2, _⟩ i g1 g2 g3
    rw [tl_len] at g3
    obtain ⟨j, rfl⟩ := Nat.exists_eq_add_of_le (a4 i g1)
    have hj : j < d := Nat.lt_of_add_lt_add_left (b3 _ g2 g3)
    have := h2.get (k := j) (by rw [tl_len, hpl]; exact hj)
    rw [gy _ (by rw [Nat.add_comm]; exact Nat.add_lt_add_right hj k), gp _ hj, show a + (k + j) = a + j + k by rw [Nat.add_comm k, Nat.add_assoc]] at this
    exact this.symm
  · intro h
    refine ⟨.of fun i hi => ?_, .of fun i hi => ?_, Nat.add_le_add_left dk d⟩
    · rw [tl_len, hpl] at hi
      rw [Nat.zero_add, gy _ (Nat.lt_add_right k hi), gp _ hi]
    · rw [tl_len, hpl] at hi
      have e : a + i < a + d := Nat.add_lt_add_left hi a
      rw [gy _ (by rw [Nat.add_comm]; exact Nat.add_lt_add_right hi k), gp _ hi, h (a + i) (Nat.le_trans a3 (Nat.le_add_right ..)) (Nat.lt_of_lt_of_le e b1) (by rw [tl_len]; exact Nat.lt_of_lt_of_le (Nat.add_lt_add_right e k) b2)]; rw [Nat.add_comm k, Nat.add_assoc]
theorem round_spec {x : Str} {c : Nat} (hd : dotless x) (hc : c ≤ x.length) (hn : 1 ≤ x.length) :
    1 ≤ roundL x c ∧ roundL x c ≤ x.length ∧ LPer (tl x) c (roundL x c) ∧ ∀ k, 1 ≤ k → k ≤ x.length → LPer (tl x) c k → roundL x c ≤ k := by
  have hall : rdAt x c x.length = true := (rdAt_iff hd hc hn (Nat.le_refl _)).mpr fun i _ h2 h3 => by rw [tl_len] at h3; lia
  unfold roundL
  cases hf : (List.range' 1 x.length).find? (rdAt x c) with
  | none =>
    have := List.find?_eq_none.mp hf x.length (List.mem_range'_1.mpr (by lia))
    exact absurd hall this
  | some k =>
    have h1 := List.find?_some hf
    have h2 := List.mem_range'_1.mp (List.mem_of_find?_eq_some hf)
    refine ⟨h2.1, by show k ≤ _; lia, (rdAt_iff hd hc h2.1 (by omega)).mp h1, fun j j1 j2 j3 => ?_⟩
    show k ≤ j
    obtain ⟨_, as, bs, he, hno⟩ := List.find?_eq_some_iff_append.mp hf
    refine Nat.not_lt.mp fun hlt => ?_
    have hjm : j ∈ as := by
      have hj : j ∈ List.range' 1 x.length := List.mem_range'_1.mpr (by (clear hc hn h2 hlt; lia))
      rw [he] at hj
      rcases List.mem_append.mp hj with q | q
      · exact q
      · exfalso
        have hp := List.pairwise_lt_range' (s := 1) (n := x.length)
        rw [he] at hp
        have h3 := (List.pairwise_append.mp hp).2.1
        rcases List.mem_cons.mp q with rfl | q
        · lia
        · have := List.rel_of_pairwise_cons h3 q; lia
    have := hno j hjm
    rw [(rdAt_iff hd hc j1 j2).mpr j3] at this
    cases this
noncomputable def isPer {α : Type} [DecidableEq α] (x : List α) (p : Nat) : Bool := decide (x.drop p = x.take (x.length - p))
noncomputable def periodsL (row : List Int) : List Nat := (List.range' 1 (row.length - 1)).filter (isPer row) ++ [row.length]
noncomputable def minP (row : List Int) : Nat := (periodsL row).headD 0
theorem isPer_iff {α : Type} [DecidableEq α] {x : List α} {p : Nat} (hp : p ≤ x.length) : isPer x p = true ↔ Per x p := by
  unfold isPer; rw [decide_eq_true_eq]; exact (per_iff_drop hp).symm
theorem minP_spec {row : List Int} (hn : 1 ≤ row.length) : 1 ≤ minP row ∧ minP row ≤ row.length ∧ Per row (minP row) ∧ ∀ p, 1 ≤ p → p ≤ row.length → Per row p → minP row ≤ p := by
  unfold minP periodsL
  cases hf : (List.range' 1 (row.length - 1)).filter (isPer row) with
  | nil =>
    refine ⟨hn, Nat.le_refl _, fun i hi => by have hi : i + row.length < row.length := hi; lia, fun p h1 h2 h3 => ?_⟩
    show row.length ≤ p
    refine Nat.not_lt.mp fun hlt => ?_
    have : p ∈ (List.range' 1 (row.length - 1)).filter (isPer row) := List.mem_filter.mpr ⟨List.mem_range'_1.mpr (by omega), (isPer_iff h2).mpr h3⟩
    rw [hf] at this; cases this
  | cons a r =>
    have ha : a ∈ (List.range' 1 (row.length - 1)).filter (isPer row) := by rw [hf]; exact List.mem_cons_self ..
    obtain ⟨a1, a2⟩ := List.mem_filter.mp ha
    have a1 := List.mem_range'_1.mp a1
    have han : a ≤ row.length := by omega
    have hPa := (isPer_iff han).mp a2
    refine ⟨a1.1, han, hPa, fun p h1 h2 h3 => ?_⟩
    show a ≤ p
    rcases Nat.lt_or_ge p row.length with q | q
    · have hp : p ∈ (List.range' 1 (row.length - 1)).filter (isPer row) := List.mem_filter.mpr ⟨List.mem_range'_1.mpr (by (clear a1 han h2; omega)), (isPer_iff h2).mpr h3⟩
      have hs : ((List.range' 1 (row.length - 1)).filter (isPer row)).Pairwise (· < ·) := (List.pairwise_lt_range' ..).filter _
      rw [hf] at hs hp
      rcases List.mem_cons.mp hp with rfl | hp
      · exact Nat.le_refl _
      · exact Nat.le_of_lt (List.rel_of_pairwise_cons hs hp)
    · lia
theorem minP_unique {row : List Int} {p : Nat} (hn : 1 ≤ row.length) (h1 : 1 ≤ p) (h2 : p ≤ row.length) (h3 : Per row p) (h4 : ∀ q, 1 ≤ q → q ≤ row.length → Per row q → p ≤ q) : minP row = p := by
  obtain ⟨a, b, c, d⟩ := minP_spec hn
  exact Nat.le_antisymm (d p h1 h2 h3) (h4 _ a b c)
theorem minP_reverse {row : List Int} (hn : 1 ≤ row.length) : minP row.reverse = minP row := by
  obtain ⟨a, b, c, d⟩ := minP_spec hn
  refine minP_unique (by rw [List.length_reverse]; exact hn) a (by rw [List.length_reverse]; exact b) (per_reverse c) fun q h1 h2 h3 => ?_
  rw [List.length_reverse] at h2
  exact d q h1 h2 (per_reverse_iff.mp h3)
noncomputable def sg (s : Int) : Nat := if s > 255 then 10 else (300 + s).toNat
/-- the row that the signs stand for -/
structure Signs (x : Str) (row : List Int) : Prop where
  tl : tl x = row.map sg
  inj : ∀ a ∈ row, ∀ b ∈ row, sg a = sg b → a = b
  dl : dotless x
  pos : 1 ≤ row.length
theorem Signs.len {x : Str} {row : List Int} (h : Signs x row) : x.length = row.length := by rw [← tl_len, h.tl, List.length_map]
theorem Signs.per {x : Str} {row : List Int} (h : Signs x row) {p : Nat} : Per (Mine.tl x) p ↔ Per row p := by rw [h.tl]; exact per_map h.inj
theorem Signs.lper {x : Str} {row : List Int} (h : Signs x row) {c p : Nat} (hl : LPer (Mine.tl x) c p) : LPer row c p := by
  rw [h.tl] at hl
  intro i h1 h2 h3
  have := hl i h1 h2 (by rw [List.length_map]; exact h3)
  rw [List.getElem?_map, List.getElem?_map, List.getElem?_eq_getElem h3, List.getElem?_eq_getElem (show i < row.length by lia)] at this
  rw [List.getElem?_eq_getElem h3, List.getElem?_eq_getElem (show i < row.length by omega)]
  exact congrArg some (h.inj _ (List.getElem_mem _) _ (List.getElem_mem _) (Option.some.inj this))
theorem Signs.rev {x : Str} {row : List Int} (h : Signs x row) : Signs (revS x) row.reverse := by
  refine ⟨?_, fun a ha b hb => h.inj a (List.mem_reverse.mp ha) b (List.mem_reverse.mp hb), fun hm => h.dl ?_, by rw [List.length_reverse]; exact h.pos⟩
  · show (Mine.tl x).reverse = _; rw [h.tl, List.map_reverse]
  · have hm : 46 ∈ (Mine.tl x).reverse := hm
    exact List.mem_reverse.mp hm
theorem Signs.round_le {x : Str} {row : List Int} (h : Signs x row) {c : Nat} (hc : c ≤ row.length) : roundL x c ≤ minP row := by
  obtain ⟨a, b, p, _⟩ := minP_spec h.pos
  exact (round_spec h.dl (by rw [h.len]; exact hc) (by rw [h.len]; exact h.pos)).2.2.2 _ a (by rw [h.len]; exact b) ((h.per.mpr p).local c)
/-- the critical place tells the period -/
theorem Signs.crit {x : Str} {row : List Int} (h : Signs x row) : roundL x (max (begS 1 row) (begS (-1) row)) = minP row := by
  have b1 := (begS_max (e := 1) (.inl rfl) h.pos).1
  have b2 := (begS_max (e := -1) (.inr rfl) h.pos).1
  have hc : max (begS 1 row) (begS (-1) row) ≤ row.length := by lia
  obtain ⟨r1, r2, r3, _⟩ := round_spec h.dl (by rw [h.len]; exact hc) (by rw [h.len]; exact h.pos)
  rw [h.len] at r2
  exact Nat.le_antisymm (h.round_le hc) ((minP_spec h.pos).2.2.2 _ r1 r2 (critical_row h.pos r1 r2 (h.lper r3)))
end Mine
namespace Mine
open PySem PySem.W PySem.Builtin.Str
theorem cells0_len (script : List Int) : 6 ≤ (cells0 script).length ∧ (cells0 script).length ≤ 7 := by
  unfold cells0
  rw [List.length_append, List.length_take, List.length_drop]
  show 6 ≤ min 7 script.length + (6 - script.length) ∧ min 7 script.length + (6 - script.length) ≤ 7
  omega
theorem rowD_len (script : List Int) : 6 ≤ (rowD script).length ∧ (rowD script).length ≤ 10 := by
  have := cells0_len script
  unfold rowD cellsD
  rw [List.length_map, List.length_append, List.length_take]
  have : (mk script / 58656 % 4).toNat ≤ 3 := by lia
  lia
theorem rowD_vals {script : List Int} {v : Int} (h : v ∈ rowD script) : (7 ≤ v ∧ v ≤ 54) ∨ (v = 159 + (cOf (mk script) : Int) ∧ 256 ≤ v ∧ v ≤ 281) := by
  unfold rowD at h
  obtain ⟨x, _, rfl⟩ := List.mem_map.mp h
  have h3 : (x % 3).toNat = 0 ∨ (x % 3).toNat = 1 ∨ (x % 3).toNat = 2 := by lia
  rcases h3 with e | e | e <;> rw [e]
  · left; show 7 ≤ 7 + (fOf (mk script) : Int) ∧ 7 + (fOf (mk script) : Int) ≤ 54; have := fOf_lt (mk script); lia
  · left; show 7 ≤ 7 + (sOf (mk script) : Int) ∧ 7 + (sOf (mk script) : Int) ≤ 54; have := sOf_lt (mk script); lia
  · right; refine ⟨rfl, ?_⟩; show 256 ≤ 159 + (cOf (mk script) : Int) ∧ 159 + (cOf (mk script) : Int) ≤ 281; have := cOf_ok (mk script); lia
theorem rowD_signs {script : List Int} {x : Str} (h : tl x = (rowD script).map sg) : Signs x (rowD script) := by
  refine ⟨h, fun a ha b hb e => ?_, fun hm => ?_, by have := rowD_len script; lia⟩
  · have h1 := rowD_vals ha
    have h2 := rowD_vals hb
    unfold sg at e
    split at e <;> split at e <;> omega
  · rw [h] at hm
    obtain ⟨v, hv, e⟩ := List.mem_map.mp hm
    have h1 := rowD_vals hv
    unfold sg at e
    split at e <;> omega
theorem jn_snoc : ∀ {ps : List Str} {z : Str}, ps ≠ [] → jn (ps ++ [z]) = jn ps ++ ([46, 46, 46] ++ tl z)
  | [], _, h => absurd rfl h
  | [p], z, _ => rfl
  | p :: q :: r, z, _ => by
    show tl p ++ ([46, 46, 46] ++ jn (q :: r ++ [z])) = tl p ++ ([46, 46, 46] ++ jn (q :: r)) ++ ([46, 46, 46] ++ tl z)
    rw [jn_snoc (by simp)]; simp
/-- what _ellipsis_match says of W -/
noncomputable def Good (x W : Str) (b : Bool) : Prop := EllOk W ∧ ellM W x = b
theorem two_parts {ps : List Str} (h : 2 ≤ ps.length) : ∃ a mid z, ps = a :: (mid ++ [z]) := by
  cases ps with
  | nil => simp at h
  | cons a r =>
    have hr : r ≠ [] := by rintro rfl; simp at h
    exact ⟨a, r.dropLast, r.getLast hr, by rw [List.dropLast_concat_getLast hr]⟩
theorem good_of {x W : Str} {ps : List Str} (h : tl W = jn ps) (h2 : 2 ≤ ps.length) (hd : ∀ p ∈ ps, dotless p) (hl : W.length ≤ 2 ^ 19) : Good x W (ellTop x ps) := by
  cases ps with
  | nil => simp at h2
  | cons p r =>
    cases r with
    | nil => simp at h2
    | cons q r => exact ⟨.jn h hd hl, ellM_jn h hd⟩
theorem good_long {x W : Str} {ps : List Str} (h : tl W = jn ps) (h2 : 2 ≤ ps.length) (hd : ∀ p ∈ ps, dotless p) (hl : W.length ≤ 2 ^ 19) (hs : x.length < (ps.map Str.length).sum) : Good x W false := by
  have g := good_of (x := x) h h2 hd hl
  obtain ⟨a, mid, z, rfl⟩ := two_parts h2
  rw [top_long (by
    rw [List.map_cons, List.map_append, List.sum_cons, List.sum_append] at hs
    simp only [List.map_cons, List.map_nil, List.sum_cons, List.sum_nil] at hs
    lia)] at g
  exact g
theorem good_plain {x W : Str} (hd : dotless W) (hl : W.length ≤ 2 ^ 19) : Good x W (W == x) := by
  have hc : Txt.contains W dots = false := no_contains fun i h1 _ => hd (List.mem_of_getElem? h1)
  exact ⟨.no hc (by unfold sizeLine; lia), ellM_no hc⟩
theorem str_beq {x y : Str} : (x == y) = decide (tl x = tl y) := by
  rw [Bool.eq_iff_iff, beq_iff_eq, decide_eq_true_eq]
  exact ⟨fun h => by rw [h], tl_inj⟩
theorem per_add {α : Type} {X : List α} {p : Nat} (h : Per X p) : ∀ (j i : Nat), i + j * p < X.length → X[i]? = X[i + j * p]?
  | 0, i, _ => by rw [Nat.zero_mul]; rfl
  | j + 1, i, hi => by
    rw [Nat.add_mul, Nat.one_mul] at hi ⊢
    rw [per_add h j i (by omega), h (i + j * p) (by omega), Nat.add_assoc]
theorem at_per {X : List Nat} {p : Nat} (h : Per X p) (j : Nat) (hj : j * p + p ≤ X.length) : At X (X.take p) (j * p) := by
  refine .of fun k hk => ?_
  rw [List.length_take] at hk
  rw [List.getElem?_take_of_lt (by lia), per_add h j k (by lia), Nat.add_comm]
theorem chain_rep {X : List Nat} {p hi : Nat} (h : Per X p) (hp : p ≤ X.length) (hh : hi ≤ X.length) : ∀ (m j : Nat), j * p + m * p ≤ hi → Chain X hi (List.replicate m (X.take p)) (j * p)
  | 0, _, _ => trivial
  | m + 1, j, hm => by
    have hl : (X.take p).length = p := by rw [List.length_take]; lia
    rw [Nat.add_mul, Nat.one_mul] at hm
    refine ⟨j * p, Nat.le_refl _, by rw [hl]; lia, at_per h j (by (clear hp; lia)), ?_⟩
    rw [hl]
    have := chain_rep h hp hh m (j + 1) (by rw [Nat.add_mul, Nat.one_mul]; lia)
    rw [Nat.add_mul, Nat.one_mul] at this
    exact this
/-- the text cut by its period, with dots between -/
theorem good_cut {x W : Str} {p o left : Nat} {ps : List Str} (hd : dotless x) (hP : Per (tl x) p) (hp : 1 ≤ p) (hn : o * p + left = x.length) (hlt : left < p) (ho : 1 ≤ o) (hps : ps = List.replicate o (tk x p) ++ if left = 0 then [] else [dk x (x.length - left)])
    (h : tl W = jn ps) (hl : W.length ≤ 2 ^ 19) : Good x W true := by
  have hop : p ≤ o * p := Nat.le_mul_of_pos_left p ho
  have htl := tl_len x
  have hdl : ∀ z ∈ ps, dotless z := fun z hz => by
    rw [hps] at hz
    rcases List.mem_append.mp hz with q | q
    · rw [(List.mem_replicate.mp q).2]; exact tk_dotless hd
    · split at q
      · cases q
      · rw [List.mem_singleton.mp q]; exact dk_dotless hd
  have tkl : (tk x p).length = p := by rw [tk_len]; (clear hp hlt ho hl; lia)
  by_cases h2 : 2 ≤ ps.length
  · have g := good_of (x := x) h h2 hdl hl
    suffices ellTop x ps = true by rw [this] at g; exact g
    obtain ⟨o', rfl⟩ : ∃ o', o = o' + 1 := ⟨o - 1, by lia⟩
    have hop' : (o' + 1) * p = o' * p + p := by rw [Nat.add_mul, Nat.one_mul]
    have a0 : At (tl x) (tl (tk x p)) 0 := by
      have := at_per hP 0 (by lia)
      rw [Nat.zero_mul] at this; exact this
    by_cases hz : left = 0
    · rw [if_pos hz, List.append_nil] at hps
      have ho2 : 1 ≤ o' := by rw [hps, List.length_replicate] at h2; lia
      obtain ⟨o'', rfl⟩ : ∃ o'', o' = o'' + 1 := ⟨o' - 1, by lia⟩
      have e : ps = tk x p :: (List.replicate o'' (tk x p) ++ [tk x p]) := by
        rw [hps, List.replicate_succ, List.replicate_succ']
      have hop2 : (o'' + 1) * p = o'' * p + p := by rw [Nat.add_mul, Nat.one_mul]
      rw [e, top_iff, tkl]
      refine ⟨a0, ?_, by lia, ?_⟩
      · have := at_per hP (o'' + 1) (by lia)
        rw [show x.length - p = (o'' + 1) * p by (clear hp hlt hl htl h2 ho ho2 hop2; omega)]; exact this
      · rw [List.map_replicate]
        have := chain_rep hP (by (clear hp hlt hl h2 ho ho2 hop2; lia)) (hi := x.length - p) (by lia) o'' 1 (by lia)
        rw [Nat.one_mul] at this; exact this
    · rw [if_neg hz] at hps
      have e : ps = tk x p :: (List.replicate o' (tk x p) ++ [dk x (x.length - left)]) := by
        rw [hps, List.replicate_succ]; rfl
      have dkl : (dk x (x.length - left)).length = left := by rw [dk_len]; (clear hp hlt hl htl tkl h2 ho hop hop' hz; omega)
      rw [e, top_iff, tkl, dkl]
      refine ⟨a0, ?_, by lia, ?_⟩
      · refine .of fun k hk => ?_
        rw [tl_dk, List.getElem?_drop]
      · rw [List.map_replicate]
        have := chain_rep hP (by (clear hp hlt hl h2 ho hz; lia)) (hi := x.length - left) (by (clear hp hlt hl tkl h2 ho hop hop' hz; omega)) o' 1 (by (clear hp hlt hl htl h2 ho hop hz dkl; omega))
        rw [Nat.one_mul] at this; exact this
  · have hpl : ps.length = o + if left = 0 then 0 else 1 := by
      rw [hps, List.length_append, List.length_replicate]; split <;> rfl
    have ho1 : o = 1 := by lia
    have hz : left = 0 := by
      refine Classical.byContradiction fun q => ?_
      rw [if_neg q] at hpl; lia
    subst ho1 hz
    rw [if_pos rfl] at hps
    have hpn : p = x.length := by (clear hp hl htl h2 ho hop hlt hpl; lia)
    have : W = x := tl_inj (by
      rw [h, hps]
      show tl (tk x p) = _
      rw [tl_tk, List.take_of_length_le (by lia)])
    subst this
    have := good_plain (x := W) hd hl
    rw [show (W == W) = true from beq_self_eq_true W] at this
    exact this
end Mine
namespace Mine
open PySem PySem.W PySem.Builtin.Str
section
variable {x : Str} {row : List Int}
theorem Signs.one (h : Signs x row) : (minP row = 1) ↔ Per (Mine.tl x) 1 := by
  obtain ⟨a, b, c, d⟩ := minP_spec h.pos
  rw [h.per]
  exact ⟨fun e => e ▸ c, fun p => Nat.le_antisymm (d 1 (Nat.le_refl _) h.pos p) a⟩
theorem good_piece {q : Nat} (h : Signs x row) (hl : x.length ≤ 2 ^ 10) (h1 : 1 ≤ q) (hq : q < row.length) : Good x (tk x (row.length - q) ++ dots ++ tk x (row.length - q)) (isPer row q && decide (row.length ≤ 2 * q)) := by
  have hn := h.len
  have hpl : (tk x (row.length - q)).length = row.length - q := by rw [tk_len]; (clear hl; lia)
  refine ⟨twice_ok (tk_dotless h.dl) (by lia), ?_⟩
  rw [Bool.eq_iff_iff, twice_iff (tk_dotless h.dl), Bool.and_eq_true, isPer_iff (by (clear hl h1 hn hpl; lia)), ← h.per, decide_eq_true_eq, hpl, show x.length - (row.length - q) = q by (clear hl hpl; lia)]
  constructor
  · rintro ⟨_, h2, h3⟩
    refine ⟨fun i hi => ?_, by (clear hl h1 hpl; lia)⟩
    rw [tl_len] at hi
    have := h2.get (k := i) (by rw [tl_len, hpl]; (clear hl h1 hpl h3; lia))
    rw [tl_tk, List.getElem?_take_of_lt (by omega), Nat.add_comm] at this
    exact this.symm
  · rintro ⟨hP, h3⟩
    refine ⟨.of fun k hk => ?_, .of fun k hk => ?_, by omega⟩
    · rw [tl_len, hpl] at hk
      rw [tl_tk, List.getElem?_take_of_lt hk, Nat.zero_add]
    · rw [tl_len, hpl] at hk
      rw [tl_tk, List.getElem?_take_of_lt hk, hP k (by rw [tl_len]; (clear hl h1 hpl h3; lia)), Nat.add_comm]
theorem per_one {X : List Nat} : Per X 1 ↔ X.drop 1 = X.take (X.length - 1) := by
  rcases Nat.eq_zero_or_pos X.length with h | h
  · have : X = [] := List.length_eq_zero_iff.mp h
    subst this
    exact ⟨fun _ => rfl, fun _ i hi => by simp at hi⟩
  · exact per_iff_drop h
theorem good5 (h : Signs x row) (hl : x.length ≤ 2 ^ 10) : Good x (dk x 1 ++ dots) (decide (minP row = 1)) := by
  have hn := h.len
  have hpos := h.pos
  have e : tl (dk x 1 ++ dots) = jn [dk x 1, ⟨#[]⟩] := by rw [tl_append, tl_dots]; rfl
  have g := good_of (x := x) e (Nat.le_refl _) (fun p hp => by
    rcases List.mem_cons.mp hp with rfl | hp
    · exact dk_dotless h.dl
    · rw [List.mem_singleton.mp hp]; exact fun hm => by cases hm) (by rw [Str.length_append, dk_len, dots_len]; lia)
  refine ⟨g.1, g.2.trans ?_⟩
  rw [Bool.eq_iff_iff, decide_eq_true_eq, h.one, show [dk x 1, (⟨#[]⟩ : Str)] = dk x 1 :: ([] ++ [⟨#[]⟩]) from rfl, top_iff, per_one, tl_len]
  have hdl : (dk x 1).length = x.length - 1 := dk_len
  constructor
  · rintro ⟨h1, _⟩
    unfold At at h1
    rw [List.drop_zero, tl_len, hdl] at h1
    exact h1.symm
  · intro h1
    refine ⟨?_, at_nil, by show (dk x 1).length + 0 ≤ _; lia, trivial⟩
    unfold At
    rw [List.drop_zero, tl_len, hdl]; exact h1.symm
theorem good6 {z : Str} (h : Signs x row) (hl : x.length ≤ 2 ^ 10) (hz : tl z = (tl x).take (x.length - 1)) : Good x (dots ++ z) (decide (minP row = 1)) := by
  have hn := h.len
  have hpos := h.pos
  have hzl : z.length = x.length - 1 := by rw [← tl_len, hz, List.length_take, tl_len]; lia
  have e : tl (dots ++ z) = jn [⟨#[]⟩, z] := by rw [tl_append, tl_dots]; rfl
  have g := good_of (x := x) e (Nat.le_refl _) (fun p hp => by
    rcases List.mem_cons.mp hp with rfl | hp
    · exact fun hm => by cases hm
    · rw [List.mem_singleton.mp hp]
      unfold dotless; rw [hz]; exact fun hm => h.dl (List.mem_of_mem_take hm)) (by rw [Str.length_append, hzl, dots_len]; lia)
  refine ⟨g.1, g.2.trans ?_⟩
  rw [Bool.eq_iff_iff, decide_eq_true_eq, h.one, show [(⟨#[]⟩ : Str), z] = ⟨#[]⟩ :: ([] ++ [z]) from rfl, top_iff, per_one, tl_len, hzl, show x.length - (x.length - 1) = 1 by lia]
  have hd1 : ((tl x).drop 1).take (x.length - 1) = (tl x).drop 1 := List.take_of_length_le (by rw [List.length_drop, tl_len]; lia)
  constructor
  · rintro ⟨_, h1, _⟩
    unfold At at h1
    rw [tl_len, hzl, hz, hd1] at h1
    exact h1
  · intro h1
    refine ⟨at_nil, ?_, by show 0 + _ ≤ _; lia, trivial⟩
    unfold At
    rw [tl_len, hzl, hz, hd1]; exact h1
theorem good_short {z : Str} (hz : dotless z) (hl : z.length ≤ 2 ^ 10) (hne : z.length ≠ x.length) : Good x z false := by
  have g := good_plain (x := x) hz (by lia)
  rw [str_beq, decide_eq_false fun e => hne (by rw [← tl_len, e, tl_len])] at g
  exact g
theorem good9 (h : Signs x row) (hl : x.length ≤ 2 ^ 10) : Good x (dk x 1 ++ tk x 1) (decide (minP row = 1)) := by
  have hn := h.len
  have hpos := h.pos
  have e : tl (dk x 1 ++ tk x 1) = (tl x).drop 1 ++ (tl x).take 1 := tl_append ..
  have g := good_plain (x := x) (W := dk x 1 ++ tk x 1) (fun hm => by
    have hm : 46 ∈ tl (dk x 1 ++ tk x 1) := hm
    rw [e] at hm
    rcases List.mem_append.mp hm with q | q
    · exact h.dl (List.mem_of_mem_drop q)
    · exact h.dl (List.mem_of_mem_take q)) (by rw [Str.length_append, dk_len, tk_len]; lia)
  refine ⟨g.1, g.2.trans ?_⟩
  rw [str_beq, e]
  refine decide_eq_decide.mpr ?_
  rw [h.one]
  have hX : 1 ≤ (tl x).length := by rw [tl_len]; lia
  generalize tl x = X at hX ⊢
  constructor
  · intro q i hi
    have this : (X.drop 1 ++ X.take 1)[i]? = X[i]? := congrArg (·[i]?) q
    rw [List.getElem?_append_left (by rw [List.length_drop]; omega), List.getElem?_drop, Nat.add_comm] at this
    exact this.symm
  · intro hP
    refine List.ext_getElem? fun i => ?_
    rcases Nat.lt_or_ge (i + 1) X.length with q | q
    · rw [List.getElem?_append_left (by rw [List.length_drop]; omega), List.getElem?_drop, Nat.add_comm, ← hP i q]
    · rw [List.getElem?_append_right (by rw [List.length_drop]; lia), List.length_drop, List.getElem?_take]
      split
      · have hi : i = X.length - 1 := by omega
        subst hi
        have := per_add hP (X.length - 1) 0 (by (clear hl hn hpos q; omega))
        rw [Nat.mul_one, Nat.zero_add] at this
        rw [Nat.sub_self]; exact this
      · rw [List.getElem?_eq_none (by omega)]
theorem good10 (h : Signs x row) (hl : x.length ≤ 2 ^ 10) : Good x (tk x 1 ++ "." ++ dk x 2) false := by
  have hn := h.len
  have hpos := h.pos
  have e : tl (tk x 1 ++ "." ++ dk x 2) = (tl x).take 1 ++ ([46] ++ (tl x).drop 2) := by
    rw [tl_append, tl_append, List.append_assoc]; rfl
  have h1 : ((tl x).take 1).length = 1 := by rw [List.length_take, tl_len]; lia
  have hd := h.dl
  have hc : Txt.contains (tk x 1 ++ "." ++ dk x 2) dots = false := no_contains fun i g1 g2 => by
    have low : ∀ j, j ≠ 1 → (tl (tk x 1 ++ "." ++ dk x 2))[j]? = some 46 → False := fun j hj g => by
      rw [e] at g
      rcases Nat.lt_or_ge j 1 with q | q
      · rw [List.getElem?_append_left (by lia)] at g
        exact hd (List.mem_of_mem_take (List.mem_of_getElem? g))
      · rw [List.getElem?_append_right (by (clear hl hn hpos hj; lia)), List.getElem?_append_right (by rw [h1]; show 1 ≤ _; lia)] at g
        exact hd (List.mem_of_mem_drop (List.mem_of_getElem? g))
    rcases Nat.decEq i 1 with q | q
    · exact low i q g1
    · exact low (i + 1) (by lia) g2
  refine ⟨.no hc (by rw [Str.length_append, Str.length_append, tk_len, dk_len, show Str.length (Str.ofString ".") = 1 from by decide]; unfold sizeLine; lia), ?_⟩
  rw [ellM_no hc, str_beq]
  refine decide_eq_false fun q => ?_
  refine hd ?_
  show 46 ∈ tl x
  rw [← q, e]; simp
end
end Mine
namespace Mine
open PySem PySem.W PySem.Calls PyProof.Rows PySem.Builtin.Str
noncomputable abbrev rest18 (k : Nat) : List Stmt := (fBody (fAt 18)).drop k
noncomputable abbrev P18 (w : World) (A : Around) (k : Nat) (T : Tops) (Q : Value → Shared → Prop) (s₀ s : Shared) : Prop :=
  wpAny (model P31 w) A (execs (rest18 k) (envF T 18 s₀.heap.objs.size)) (fun f s' => Q (match f with | .ret v => v | _ => .none) s') NoE s
section
variable {w : World} {T : Tops} {s₀ s : Shared} {m : Str → Option Value} {news : List (Addr × Obj)} {A : Around} {Q : Value → Shared → Prop} {sc : Addr} {so : Obj} {vs : List Value} {script : List Int}
noncomputable abbrev S18 (w : World) (T : Tops) (s₀ : Shared) (m : Str → Option Value) (news : List (Addr × Obj)) (s : Shared) : Prop := St w T s₀ (envF T 18 s₀.heap.objs.size) m [] news s
/-- the row stands -/
noncomputable def RowAt (script : List Int) (rw : Addr) (news : List (Addr × Obj)) : Prop := ∃ us n, (rw, lstO (List.toArray us) n) ∈ news ∧ IntsAre us (rowD script)
theorem RowAt.mono {script : List Int} {rw : Addr} {news news' : List (Addr × Obj)} (h : RowAt script rw news) (hs : ∀ p ∈ news, p ∈ news') : RowAt script rw news' := let ⟨us, n, a, b⟩ := h; ⟨us, n, hs _ a, b⟩
theorem law_A (Z : S18 w T s₀ m news s) (room : A.depth + 20 ≤ recursionLimit) (hh : A.handled = none) (hu : A.units + 20 < cLine) (hl : s₀.heap.get? sc = some so) (hlo : IsL so vs.toArray) (hi : IntsAre vs script) (hn : script.length ≤ 63)
    (m1 : m "script" = some (.ref sc))
    (next : ∀ m news s rw, S18 w T s₀ m news s → m "script" = some (.ref sc) → m "row" = some (.ref rw) → RowAt script rw news → P18 w A 3 T Q s₀ s) : P18 w A 0 T Q s₀ s := by
  have hlk : ∀ {m : Str → Option Value} {mus news : List (Addr × Obj)} {s : Shared}, St w T s₀ (envF T 18 s₀.heap.objs.size) m mus news s → s.heap.get? sc = some so := fun Z => Z.gr.keep hl hlo.cls
  have hrl := rowD_len script
  refine @wpAny_execs_cons _ _ _ _ _ _ _ _ <| @Assign_Tuple _ _ _ _ _ _ _ _ _ _ _ ( @c_call _ _ _ _ _ _ _ _ _ _ <| @ldg _ _ _ _ _ _ _ _ _ _ _ _ Z _ rfl ( r_callfn (i := 13) <| @a_cons _ _ _ _ _ _ _ _ _ ( @ld _ _ _ _ _ _ _ _ _ _ _ _ Z _ m1 ( @args_nil _ _ _ _ _ _ _ ⟨(Z.g.fn 13 (by decide)).1, ?_⟩) (by rfl) (by rfl) (by decide) (by decide)) (by rfl)) (by rfl) (by rfl) (by rfl) (by decide)) (by rfl) (by rfl)
  refine @s_drawn _ _ _ _ _ _ _ _ _ Z.g (by lia) hh (hlk Z) hlo hi hn fun s' d rw x us n t lt e1 e2 e3 e4 e5 e6 => ?_
  have Z := Z.join lt (tl := [(d, tupO #[.str x t, .ref rw]), (rw, lstO us.toArray n)]) fun p hp => by
    simp only [List.mem_cons, List.not_mem_nil, or_false] at hp
    rcases hp with rfl | rfl
    · exact ⟨e1, nofun, e3⟩
    · exact ⟨e2, nofun, e4⟩
  have hul := e6.length
  have hxl : x.length ≤ 2 ^ 10 := by
    rw [← tl_len, e5]
    unfold textD
    rw [List.length_flatten]
    have : ∀ cs : List Int, ((cs.map (cellT (mk script))).map List.length).sum ≤ 4 * cs.length := by
      intro cs
      induction cs with
      | nil => exact Nat.le_refl _
      | cons a r ih =>
        simp only [List.map_cons, List.sum_cons, List.length_cons]
        have : (cellT (mk script) a).length ≤ 4 := by
          unfold cellT
          rw [List.length_append, List.length_mapIdx]
          have := (stk_ok (mk script) (a % 3).toNat).1
          split <;> simp <;> lia
        lia
    have h1 := this (cellsD script)
    have h2 : (cellsD script).length = (rowD script).length := by unfold rowD; rw [List.length_map]
    lia
  refine @r_unpack2 _ _ _ _ _ _ _ _ _ _ _ _ _ _ _ _ _ _ _ _ Z hh (Z.get (.head _)) fun s Z => @stl _ _ _ _ _ _ _ _ _ _ _ Z _ (fun s Z => @stl _ _ _ _ _ _ _ _ _ _ _ Z _ (fun s Z => ?_) (by rfl) (by rfl) (by rfl)) (by rfl) (by rfl) (by rfl)
  refine @wpAny_execs_cons _ _ _ _ _ _ _ _ <| @wpAny_If _ _ _ _ _ _ _ _ _ _ <| @wpAny_isTrue_Compare1 _ _ _ _ _ _ _ _ _ _ _ ( @c_call _ _ _ _ _ _ _ _ _ _ <| @ldg _ _ _ _ _ _ _ _ _ _ _ _ Z _ rfl ( r_callfn (i := 14) <| @a_cons _ _ _ _ _ _ _ _ _ ( @ld _ _ _ _ _ _ _ _ _ _ _ _ Z _ rfl ( @args_nil _ _ _ _ _ _ _ ⟨(Z.g.fn 14 (by decide)).1, ?_⟩) (by rfl) (by rfl) (by decide) (by decide)) (by rfl)) (by rfl) (by rfl) (by rfl) (by decide)) (by with_unfolding_all rfl)
  refine @s_read _ _ _ _ _ _ _ Z.g (by lia) hh hxl fun s' d2 us2 n2 lt f1 f2 f3 => ?_
  rw [read_drawn script e5] at f3
  have Z := Z.join1 lt ⟨f1, nofun, f2⟩
  refine @ld _ _ _ _ _ _ _ _ _ _ _ _ Z _ rfl ( @r_neInts _ _ _ _ _ _ _ _ _ _ _ _ _ _ _ _ _ _ _ Z (by lia) (Z.get (.head _)) isL_lst (Z.get (.tail _ (.tail _ (.head _)))) isL_lst f3 e6 <| @wpAny_truthy_bool _ _ _ _ _ _ ?_) (by rfl) (by rfl) (by decide) (by decide)
  rw [if_neg (by simp)]
  refine @wpAny_execs_nil _ _ _ _ _ _ ?_
  refine @wpAny_execs_cons _ _ _ _ _ _ _ _ <| @wpAny_For _ _ _ _ _ _ _ _ _ _ _ ( @wpAny_BinOp _ _ _ _ _ _ _ _ _ _ <| @ld _ _ _ _ _ _ _ _ _ _ _ _ Z _ rfl ( @List_ _ _ _ _ _ _ _ _ <| @args_ints _ _ _ _ _ _ _ _ _ _ [-1, 0, 255, 256] _ _ _ (by rfl) Z fun vs4 s h4 Z => @r_newlist _ _ _ _ _ _ _ _ _ _ _ _ Z (by rw [h4.length]; decide) fun d4 s Z => @r_ladd _ _ _ _ _ _ _ _ _ _ _ _ _ _ _ _ _ Z (Z.get (.tail _ (.tail _ (.tail _ (.head _))))) (Z.get (.head _)) (by simp [h4.length]; lia) fun d5 s Z => ?_) (by rfl) (by rfl) (by decide) (by decide)) (by intro _; rfl)
  have h5 := e6.append h4
  rw [show us.toArray ++ vs4.toArray = (us ++ vs4).toArray by simp] at Z
  refine @r_iterList _ _ _ _ _ _ _ _ _ _ _ _ _ _ _ Z hh (Z.get (.head _)) isL_lst (fun i m mus news => mus = [] ∧ m "script" = some (.ref sc) ∧ m "row" = some (.ref rw) ∧ (rw, lstO us.toArray n) ∈ news ∧ (d5, lstO (us ++ vs4).toArray 0) ∈ news) ?_ ?_ ?_ (?_) (by intro _ _; rfl)
  · rintro i m mus news s ⟨_, _, _, _, hm⟩ Z
    exact Z.get hm
  · exact ⟨rfl, m1, rfl, .tail _ (.tail _ (.tail _ (.tail _ (.head _)))), .head _⟩
  · intro I i m mus news oI v s hi2 hK hv Z
    refine @turn_hide _ _ _ _ _ _ _ _ _ _ _ fun Pt hPt => @goal_hide _ fun G hG => ?_
    obtain ⟨rfl, k1, k2, k3, k4⟩ := hK
    obtain ⟨a, t, rfl⟩ : ∃ a t, v = .int a t := by
      have hi2 : i < ((rowD script) ++ [-1, 0, 255, 256]).length := by rw [← h5.length]; simpa using hi2
      obtain ⟨t, hvx⟩ := h5.get i _ (List.getElem?_eq_getElem hi2)
      rw [List.getElem?_toArray, hvx] at hv
      exact ⟨_, t, (Option.some.inj hv).symm⟩
    refine hG ?_
    clear hG
    refine @wpAny_assign_Name _ _ _ _ _ _ _ _ _ <| @stl _ _ _ _ _ _ _ _ _ _ _ Z _ (fun s Z => ?_) (by rfl) (by rfl) (by rfl)
    refine @wpAny_execs_cons _ _ _ _ _ _ _ _ <| @wpAny_If _ _ _ _ _ _ _ _ _ _ <| @isTrue_or _ _ _ _ _ _ _ _ _ _ <| @wpAny_isTrue_Compare1 _ _ _ _ _ _ _ _ _ _ _ ( @c_call _ _ _ _ _ _ _ _ _ _ <| @ldg _ _ _ _ _ _ _ _ _ _ _ _ Z _ rfl ( r_callfn (i := 9) <| @a_cons _ _ _ _ _ _ _ _ _ ( @ld _ _ _ _ _ _ _ _ _ _ _ _ Z _ rfl ( @args_nil _ _ _ _ _ _ _ ⟨(Z.g.fn 9 (by decide)).1, ?_⟩) (by rfl) (by rfl) (by decide) (by decide)) (by rfl)) (by rfl) (by rfl) (by rfl) (by decide)) (by with_unfolding_all rfl)
    refine @s_ISTERMINAL _ _ _ _ _ _ _ Z.g (by lia) fun s' lt => ?_
    have Z := Z.later lt
    refine @wpAny_Compare1 _ _ _ _ _ _ _ _ _ _ ( @ld _ _ _ _ _ _ _ _ _ _ _ _ Z _ rfl ( @k_int _ _ _ _ _ _ _ _ _ _ _ _ _ _ Z fun t s Z => @lt_int _ _ _ _ _ _ _ _ _ _ <| @isnot_bool _ _ _ _ _ _ _ <| @wpAny_truthy_bool _ _ _ _ _ _ ?_) (by rfl) (by rfl) (by decide) (by decide)) (by with_unfolding_all rfl)
    rw [if_neg (by simp)]
    refine @isTrue_or _ _ _ _ _ _ _ _ _ _ <| @wpAny_isTrue_Compare1 _ _ _ _ _ _ _ _ _ _ _ ( @c_call _ _ _ _ _ _ _ _ _ _ <| @ldg _ _ _ _ _ _ _ _ _ _ _ _ Z _ rfl ( r_callfn (i := 10) <| @a_cons _ _ _ _ _ _ _ _ _ ( @ld _ _ _ _ _ _ _ _ _ _ _ _ Z _ rfl ( @args_nil _ _ _ _ _ _ _ ⟨(Z.g.fn 10 (by decide)).1, ?_⟩) (by rfl) (by rfl) (by decide) (by decide)) (by rfl)) (by rfl) (by rfl) (by rfl) (by decide)) (by with_unfolding_all rfl)
    refine @s_ISNONTERMINAL _ _ _ _ _ _ _ Z.g (by omega) fun s' lt => ?_
    have Z := Z.later lt
    refine @wpAny_Compare1 _ _ _ _ _ _ _ _ _ _ ( @ld _ _ _ _ _ _ _ _ _ _ _ _ Z _ rfl ( @k_int _ _ _ _ _ _ _ _ _ _ _ _ _ _ Z fun t s Z => @gt_int _ _ _ _ _ _ _ _ _ _ <| @isnot_bool _ _ _ _ _ _ _ <| @wpAny_truthy_bool _ _ _ _ _ _ ?_) (by rfl) (by rfl) (by decide) (by decide)) (by with_unfolding_all rfl)
    rw [if_neg (by
      have : decide (256 ≤ a) = decide (255 < a) := decide_eq_decide.mpr (by lia)
      rw [this]; simp)]
    refine @isTrue_or _ _ _ _ _ _ _ _ _ _ <| @wpAny_isTrue_Compare1 _ _ _ _ _ _ _ _ _ _ _ ( @c_call _ _ _ _ _ _ _ _ _ _ <| @ldg _ _ _ _ _ _ _ _ _ _ _ _ Z _ rfl ( r_callfn (i := 11) <| @a_cons _ _ _ _ _ _ _ _ _ ( @ld _ _ _ _ _ _ _ _ _ _ _ _ Z _ rfl ( @args_nil _ _ _ _ _ _ _ ⟨(Z.g.fn 11 (by decide)).1, ?_⟩) (by rfl) (by rfl) (by decide) (by decide)) (by rfl)) (by rfl) (by rfl) (by rfl) (by decide)) (by with_unfolding_all rfl)
    refine @s_ISEOF _ _ _ _ _ _ _ Z.g (by omega) fun s' lt => ?_
    have Z := Z.later lt
    refine @wpAny_Compare1 _ _ _ _ _ _ _ _ _ _ ( @ld _ _ _ _ _ _ _ _ _ _ _ _ Z _ rfl ( @k_int _ _ _ _ _ _ _ _ _ _ _ _ _ _ Z fun t s Z => @eq_int _ _ _ _ _ _ _ _ _ _ <| @isnot_bool _ _ _ _ _ _ _ <| @wpAny_truthy_bool _ _ _ _ _ _ ?_) (by rfl) (by rfl) (by decide) (by decide)) (by with_unfolding_all rfl)
    rw [if_neg (by simp)]
    refine @isTrue_or_nil _ _ _ _ _ _ _ _ ?_
    rw [if_neg (by decide)]
    exact @wpAny_execs_nil _ _ _ _ _ _ <| @wpAny_execs_nil _ _ _ _ _ _ <| hPt _ _ ⟨_, _, _, Z, rfl, k1, k2, k3, k4⟩
  · rintro m mus news s ⟨rfl, k1, k2, k3, k4⟩ Z
    exact next _ _ _ rw Z k1 k2 ⟨us, n, k3, e6⟩
end
end Mine
namespace Mine
open PySem PySem.W PySem.Calls PyProof.Rows PySem.Builtin.Str
noncomputable def wOf (script : List Int) : Nat := (9 + script.sum % 1200).toNat
noncomputable def eOf (script : List Int) : Nat := (script.sum % 4000).toNat
noncomputable def shOf (script : List Int) : Nat := 3 ^ eOf script
noncomputable def dsOf (script : List Int) : List Nat := (rowD script).reverse.map Int.toNat
noncomputable abbrev nOf (script : List Int) : Nat := (rowD script).length
noncomputable def qOf (script : List Int) (k : Nat) : Nat := dval (wOf script) ((dsOf script).drop k)
noncomputable def rOf (script : List Int) (k : Nat) : Nat := shOf script * dval (wOf script) ((dsOf script).take k)
noncomputable def whOf (script : List Int) : Nat := dval (wOf script) (dsOf script) * shOf script
noncomputable def PartsAt (script : List Int) (pt : Addr) (news : List (Addr × Obj)) : Prop := ∃ arr n, (pt, lstO (List.toArray arr) n) ∈ news ∧ arr.length = nOf script ∧ ∀ k, 1 ≤ k → k < nOf script → ∃ d t1 t2, arr[k]? = some (.ref d) ∧ (d, tupO #[.int (qOf script k : Nat) t1, .int (rOf script k : Nat) t2]) ∈ news
theorem PartsAt.mono {script : List Int} {pt : Addr} {news news' : List (Addr × Obj)} (h : PartsAt script pt news) (hs : ∀ p ∈ news, p ∈ news') : PartsAt script pt news' :=
  let ⟨arr, n, a, b, c⟩ := h; ⟨arr, n, hs _ a, b, fun k h1 h2 => let ⟨d, t1, t2, e1, e2⟩ := c k h1 h2; ⟨d, t1, t2, e1, hs _ e2⟩⟩
theorem w_ok (script : List Int) : 9 ≤ wOf script ∧ wOf script ≤ 1208 := by unfold wOf; lia
theorem e_ok (script : List Int) : eOf script < 4000 := by unfold eOf; lia
theorem sh_pos (script : List Int) : 0 < shOf script := Nat.pow_pos (by decide)
theorem sh_log (script : List Int) : ∃ b, 2 ^ b ≤ shOf script ∧ shOf script < 2 ^ (b + 1) ∧ b < 8000 := by
  have hp := sh_pos script
  refine ⟨(shOf script).log2, Nat.log2_self_le (by lia), Nat.lt_log2_self, ?_⟩
  have h1 : shOf script < 2 ^ 8000 := by
    have h2 : shOf script ≤ 4 ^ eOf script := Nat.pow_le_pow_left (by decide) _
    have h3 : (4 : Nat) ^ eOf script = 2 ^ (2 * eOf script) := by rw [show (4 : Nat) = 2 ^ 2 from rfl, ← Nat.pow_mul]
    have h4 : (2 : Nat) ^ (2 * eOf script) < 2 ^ 8000 := Nat.pow_lt_pow_right (by decide) (by have := e_ok script; lia)
    omega
  exact (Nat.log2_lt (by lia)).mpr h1
theorem ds_lt (script : List Int) : ∀ d ∈ dsOf script, d < 2 ^ wOf script := by
  intro d hd
  unfold dsOf at hd
  obtain ⟨v, hv, rfl⟩ := List.mem_map.mp hd
  have h1 := rowD_vals (List.mem_reverse.mp hv)
  have h2 : (2 : Nat) ^ 9 ≤ 2 ^ wOf script := Nat.pow_le_pow_right (by decide) (w_ok script).1
  have h3 : (2 : Nat) ^ 9 = 512 := by decide
  omega
theorem ds_len (script : List Int) : (dsOf script).length = nOf script := by unfold dsOf; rw [List.length_map, List.length_reverse]
theorem bits_ge {a k : Nat} (h : 2 ^ k ≤ a) : k + 1 ≤ Builtin.Int.intBits (a : Int) := by
  refine Nat.not_lt.mp fun hc => ?_
  have := bits_lt (a := (a : Int)) (k := k) (by lia)
  rw [Int.natAbs_natCast] at this
  lia
/-- the sizes of what is divided -/
theorem div_sizes (script : List Int) {k : Nat} (h1 : 1 ≤ k) (hk : k < nOf script) :
    Builtin.Int.intBits ((shOf script * 2 ^ (wOf script * k) : Nat) : Int) ≤ 32000 ∧ Builtin.Int.intBits (whOf script : Int) + 1 ≤ 32 * Builtin.Int.intBits ((shOf script * 2 ^ (wOf script * k) : Nat) : Int) := by
  obtain ⟨b, b1, b2, b3⟩ := sh_log script
  have hw := w_ok script
  have hn := rowD_len script
  have hD := dval_lt (wOf script) (dsOf script) (ds_lt script)
  rw [ds_len] at hD
  have hwk : wOf script * k ≤ 1208 * 9 := Nat.mul_le_mul hw.2 (by have : nOf script ≤ 10 := hn.2; (clear h1 b1 b2 b3 hw hn hD; lia))
  have hwk1 : wOf script * 1 ≤ wOf script * k := Nat.mul_le_mul_left _ h1
  have hwn : wOf script * nOf script ≤ wOf script * 10 := Nat.mul_le_mul_left _ hn.2
  have lo : 2 ^ (b + wOf script * k) ≤ shOf script * 2 ^ (wOf script * k) := by rw [Nat.pow_add]; exact Nat.mul_le_mul_right _ b1
  have hi : shOf script * 2 ^ (wOf script * k) < 2 ^ (b + 1 + wOf script * k) := by rw [Nat.pow_add]; exact Nat.mul_lt_mul_of_pos_right b2 (Nat.two_pow_pos _)
  have top : whOf script < 2 ^ (wOf script * nOf script + (b + 1)) := by
    unfold whOf; rw [Nat.pow_add]; exact Nat.mul_lt_mul'' hD b2
  have e1 := bitsNat hi
  have e2 := bits_ge lo
  have e3 := bitsNat top
  (clear h1 hk b1 b2 hw hn hD lo hi top; lia)
theorem wh_bits (script : List Int) : Builtin.Int.intBits (dval (wOf script) (dsOf script) : Int) ≤ 12080 ∧ Builtin.Int.intBits (shOf script : Int) ≤ 8000 ∧ ∀ k, Builtin.Int.intBits (qOf script k : Int) ≤ 12080 := by
  obtain ⟨b, b1, b2, b3⟩ := sh_log script
  have hw := w_ok script
  have hn := rowD_len script
  have gen : ∀ l : List Nat, (∀ d ∈ l, d < 2 ^ wOf script) → l.length ≤ 10 → Builtin.Int.intBits (dval (wOf script) l : Int) ≤ 12080 := fun l h1 h2 => by
    have hD := dval_lt (wOf script) l h1
    have : wOf script * l.length ≤ 1208 * 10 := Nat.mul_le_mul hw.2 h2
    exact Nat.le_trans (bitsNat hD) this
  refine ⟨gen _ (ds_lt script) (by rw [ds_len]; exact hn.2), Nat.le_trans (bitsNat b2) (by lia), fun k => gen _ (fun d hd => ds_lt script d (List.mem_of_mem_drop hd)) (by rw [List.length_drop, ds_len]; have : nOf script ≤ 10 := hn.2; (clear b1 b2 b3 hw hn; lia))⟩
theorem hasInts_rev {us : List Value} {script : List Int} (h : IntsAre us (rowD script)) : HasInts us.reverse.toArray (dsOf script) := by
  have hr := h.reverse
  refine ⟨by rw [List.size_toArray, hr.length, ds_len, List.length_reverse], fun i hi => ?_⟩
  rw [ds_len] at hi
  obtain ⟨t, e⟩ := hr.get i _ (List.getElem?_eq_getElem (by rw [List.length_reverse]; exact hi))
  refine ⟨t, ?_⟩
  rw [List.getElem?_toArray, e]
  have hv := rowD_vals (List.mem_reverse.mp (List.getElem_mem (show i < (rowD script).reverse.length by rw [List.length_reverse]; exact hi)))
  have : (dsOf script).getD i 0 = ((rowD script).reverse[i]'(by rw [List.length_reverse]; exact hi)).toNat := by
    unfold dsOf
    rw [List.getD_eq_getElem?_getD, List.getElem?_map, List.getElem?_eq_getElem (by rw [List.length_reverse]; exact hi)]; rfl
  rw [this]
  congr 2
  lia
section
variable {w : World} {T : Tops} {s₀ s : Shared} {m : Str → Option Value} {news : List (Addr × Obj)} {A : Around} {Q : Value → Shared → Prop} {sc rw : Addr} {so : Obj} {vs : List Value} {script : List Int}
/-- what the names hold after the division -/
structure MB (script : List Int) (m : Str → Option Value) (rw pt : Addr) : Prop where
  row : m "row" = some (.ref rw)
  count : ∃ t, m "count" = some (.int (nOf script : Nat) t)
  wide : ∃ t, m "wide" = some (.int (wOf script : Nat) t)
  way : ∃ t, m "way" = some (.int (script.sum % 4) t)
  share : ∃ t, m "share" = some (.int (shOf script : Nat) t)
  parts : m "parts" = some (.ref pt)
theorem law_B (Z : S18 w T s₀ m news s) (room : A.depth + 20 ≤ recursionLimit) (hh : A.handled = none) (hl : s₀.heap.get? sc = some so) (hlo : IsL so vs.toArray) (hi : IntsAre vs script) (hn : script.length ≤ 63)
    (m1 : m "script" = some (.ref sc)) (m2 : m "row" = some (.ref rw)) (hr : RowAt script rw news)
    (next : ∀ m news s pt, S18 w T s₀ m news s → MB script m rw pt → RowAt script rw news → PartsAt script pt news → P18 w A 9 T Q s₀ s) : P18 w A 3 T Q s₀ s := by
  have hlk : ∀ {m : Str → Option Value} {mus news : List (Addr × Obj)} {s : Shared}, St w T s₀ (envF T 18 s₀.heap.objs.size) m mus news s → s.heap.get? sc = some so := fun Z => Z.gr.keep hl hlo.cls
  have hrl := rowD_len script
  have hN : (rowD script).length = nOf script := rfl
  obtain ⟨us, nu, hr1, hr2⟩ := hr
  have hul := hr2.length
  obtain ⟨wb1, wb2, wb3⟩ := wh_bits script
  refine @wpAny_execs_cons _ _ _ _ _ _ _ _ <| @wpAny_Assign_Name _ _ _ _ _ _ _ _ _ _ ( @c_call _ _ _ _ _ _ _ _ _ _ <| @ldb _ _ _ _ _ _ _ _ _ _ _ _ Z _ rfl ( @c_blt _ _ _ _ _ _ _ _ _ _ ( @a_cons _ _ _ _ _ _ _ _ _ ( @ld _ _ _ _ _ _ _ _ _ _ _ _ Z _ m2 ( @args_nil _ _ _ _ _ _ _ <| @r_lenL _ _ _ _ _ _ _ _ _ _ _ _ _ Z (isL_lst.list (Z.get hr1)) (by simp; lia) fun tc s Z => ?_) (by rfl) (by rfl) (by decide) (by decide)) (by rfl)) (by rfl) (by rfl)) (by rfl) (by rfl) (by rfl) (by rfl) (by decide)) (by rfl)
  rw [show ((us.toArray.size : Nat) : Int) = ((nOf script : Nat) : Int) by simp [hul]]
  refine @stc _ _ _ _ _ _ _ _ _ _ _ _ Z _ rfl (by lia) (fun s Z => ?_) (by rfl) (by rfl)
  refine @wpAny_execs_cons _ _ _ _ _ _ _ _ <| @wpAny_Assign_Name _ _ _ _ _ _ _ _ _ _ ( @wpAny_BinOp _ _ _ _ _ _ _ _ _ _ <| @k_int _ _ _ _ _ _ _ _ _ _ _ _ _ _ Z fun t s Z => @wpAny_BinOp _ _ _ _ _ _ _ _ _ _ <| @c_call _ _ _ _ _ _ _ _ _ _ <| @ldb _ _ _ _ _ _ _ _ _ _ _ _ Z _ rfl ( @c_blt _ _ _ _ _ _ _ _ _ _ ( @a_cons _ _ _ _ _ _ _ _ _ ( @ld _ _ _ _ _ _ _ _ _ _ _ _ Z _ m1 ( @args_nil _ _ _ _ _ _ _ <| @r_sum _ _ _ _ _ _ _ _ _ _ _ _ _ _ _ Z hh (hlk Z) hlo hi fun t s Z => @k_int _ _ _ _ _ _ _ _ _ _ _ _ _ _ Z fun t s Z => @i_mod _ _ _ _ _ _ _ _ _ _ _ _ _ _ _ (by decide) Z fun t s Z => @r_add _ _ _ _ _ _ _ _ _ _ _ _ _ _ _ Z fun tw s Z => ?_) (by rfl) (by rfl) (by decide) (by decide)) (by rfl)) (by rfl) (by rfl)) (by rfl) (by rfl) (by rfl) (by rfl) (by decide)) (by rfl)
  rw [show (9 + script.sum % 1200) = ((wOf script : Nat) : Int) by unfold wOf; lia]
  refine @stc _ _ _ _ _ _ _ _ _ _ _ _ Z _ rfl (by lia) (fun s Z => ?_) (by rfl) (by rfl)
  refine @wpAny_execs_cons _ _ _ _ _ _ _ _ <| @wpAny_Assign_Name _ _ _ _ _ _ _ _ _ _ ( @wpAny_BinOp _ _ _ _ _ _ _ _ _ _ <| @c_call _ _ _ _ _ _ _ _ _ _ <| @ldb _ _ _ _ _ _ _ _ _ _ _ _ Z _ rfl ( @c_blt _ _ _ _ _ _ _ _ _ _ ( @a_cons _ _ _ _ _ _ _ _ _ ( @ld _ _ _ _ _ _ _ _ _ _ _ _ Z _ m1 ( @args_nil _ _ _ _ _ _ _ <| @r_sum _ _ _ _ _ _ _ _ _ _ _ _ _ _ _ Z hh (hlk Z) hlo hi fun t s Z => @k_int _ _ _ _ _ _ _ _ _ _ _ _ _ _ Z fun t s Z => @i_mod _ _ _ _ _ _ _ _ _ _ _ _ _ _ _ (by decide) Z fun ty s Z => ?_) (by rfl) (by rfl) (by decide) (by decide)) (by rfl)) (by rfl) (by rfl)) (by rfl) (by rfl) (by rfl) (by rfl) (by decide)) (by rfl)
  refine @stc _ _ _ _ _ _ _ _ _ _ _ _ Z _ rfl (by lia) (fun s Z => ?_) (by rfl) (by rfl)
  refine @wpAny_execs_cons _ _ _ _ _ _ _ _ <| @wpAny_Assign_Name _ _ _ _ _ _ _ _ _ _ ( @wpAny_BinOp _ _ _ _ _ _ _ _ _ _ <| @k_int _ _ _ _ _ _ _ _ _ _ _ _ _ _ Z fun t s Z => @wpAny_BinOp _ _ _ _ _ _ _ _ _ _ <| @c_call _ _ _ _ _ _ _ _ _ _ <| @ldb _ _ _ _ _ _ _ _ _ _ _ _ Z _ rfl ( @c_blt _ _ _ _ _ _ _ _ _ _ ( @a_cons _ _ _ _ _ _ _ _ _ ( @ld _ _ _ _ _ _ _ _ _ _ _ _ Z _ m1 ( @args_nil _ _ _ _ _ _ _ <| @r_sum _ _ _ _ _ _ _ _ _ _ _ _ _ _ _ Z hh (hlk Z) hlo hi fun t s Z => @k_int _ _ _ _ _ _ _ _ _ _ _ _ _ _ Z fun t s Z => @i_mod _ _ _ _ _ _ _ _ _ _ _ _ _ _ _ (by decide) Z fun t s Z => @r_pow _ _ _ _ _ _ _ _ _ _ _ _ _ _ _ Z (by lia) (by
    have : Builtin.Int.intBits 3 = 2 := by decide
    rw [this]; lia) fun ts s Z => ?_) (by rfl) (by rfl) (by decide) (by decide)) (by rfl)) (by rfl) (by rfl)) (by rfl) (by rfl) (by rfl) (by rfl) (by decide)) (by rfl)
  rw [show (3 : Int) ^ (script.sum % 4000).toNat = ((shOf script : Nat) : Int) by unfold shOf eOf; push_cast; rfl]
  refine @stc _ _ _ _ _ _ _ _ _ _ _ _ Z _ rfl (by lia) (fun s Z => ?_) (by rfl) (by rfl)
  refine @wpAny_execs_cons _ _ _ _ _ _ _ _ <| @wpAny_Assign_Name _ _ _ _ _ _ _ _ _ _ ( @wpAny_BinOp _ _ _ _ _ _ _ _ _ _ <| @c_call _ _ _ _ _ _ _ _ _ _ <| @ldg _ _ _ _ _ _ _ _ _ _ _ _ Z _ rfl ( r_callfn (i := 4) <| @a_cons _ _ _ _ _ _ _ _ _ ( @Subscript_ _ _ _ _ _ _ _ _ _ <| @ld _ _ _ _ _ _ _ _ _ _ _ _ Z _ m2 ( @wpAny_Slice _ _ _ _ _ _ _ _ _ _ <| @wpAny_evalPart_none _ _ _ _ _ _ <| @wpAny_evalPart_none _ _ _ _ _ _ <| @wpAny_evalPart_some _ _ _ _ _ _ _ <| eval_lit (i := -1) rfl Z fun t s Z => @sl_rev _ _ _ _ _ _ _ _ _ _ _ _ _ _ _ _ _ Z (Z.get hr1) isL_lst (by simp; lia) (fun d s Z => @a_cons _ _ _ _ _ _ _ _ _ ( @ld _ _ _ _ _ _ _ _ _ _ _ _ Z _ rfl ( @args_nil _ _ _ _ _ _ _ ⟨(Z.g.fn 4 (by decide)).1, ?_⟩) (by rfl) (by rfl) (by decide) (by decide)) (by rfl)) (by with_unfolding_all rfl)) (by rfl) (by rfl) (by decide) (by decide)) (by rfl)) (by rfl) (by rfl) (by rfl) (by decide)) (by rfl)
  refine @s_digits2int _ _ _ _ _ _ _ _ _ _ Z.g (by lia) (by have := w_ok script; lia) (isL_lst.list (Z.get (.head _))) (hasInts_rev (us := us) hr2) (by rw [ds_len]; lia) (ds_lt script) fun s' t lt => ?_
  have Z := Z.later lt
  refine @ld _ _ _ _ _ _ _ _ _ _ _ _ Z _ rfl ( @n_mul _ _ _ _ _ _ _ _ _ _ _ _ _ _ _ (mulOk (by lia)) Z fun t s Z => ?_) (by rfl) (by rfl) (by decide) (by decide)
  refine @stc _ _ _ _ _ _ _ _ _ _ _ _ Z _ rfl (by lia) (fun s Z => ?_) (by rfl) (by rfl)
  refine @wpAny_execs_cons _ _ _ _ _ _ _ _ <| @wpAny_Assign_Name _ _ _ _ _ _ _ _ _ _ ( @wpAny_BinOp _ _ _ _ _ _ _ _ _ _ <| @List_ _ _ _ _ _ _ _ _ <| @a_cons _ _ _ _ _ _ _ _ _ ( @Tuple_ _ _ _ _ _ _ _ _ _ <| @a_cons _ _ _ _ _ _ _ _ _ ( @k_int _ _ _ _ _ _ _ _ _ _ _ _ _ _ Z fun t s Z => @a_cons _ _ _ _ _ _ _ _ _ ( @k_int _ _ _ _ _ _ _ _ _ _ _ _ _ _ Z fun t s Z => @args_nil _ _ _ _ _ _ _ <| @r_tuple2 _ _ _ _ _ _ _ _ _ _ _ _ _ Z fun d0 s Z => @args_nil _ _ _ _ _ _ _ <| @r_newlist _ _ _ _ _ _ _ _ _ _ _ _ Z (by simp) fun d1 s Z => ?_) (by rfl)) (by rfl)) (by rfl)) (by rfl)
  refine Comp_ (cl := [("wide", s₀.heap.objs.size + 2), ("whole", s₀.heap.objs.size + 5), ("way", s₀.heap.objs.size + 3), ("share", s₀.heap.objs.size + 4)]) ?_
  refine @c_call _ _ _ _ _ _ _ _ _ _ <| @ldb _ _ _ _ _ _ _ _ _ _ _ _ Z _ rfl ( @c_typ _ _ _ _ _ _ _ _ _ _ ( @a_cons _ _ _ _ _ _ _ _ _ ( @k_int _ _ _ _ _ _ _ _ _ _ _ _ _ _ Z fun t s Z => @a_cons _ _ _ _ _ _ _ _ _ ( @ld _ _ _ _ _ _ _ _ _ _ _ _ Z _ rfl ( @args_nil _ _ _ _ _ _ _ <| r_range2 (a := 1) (b := nOf script) Z fun R v s Z => ?_) (by rfl) (by rfl) (by decide) (by decide)) (by rfl)) (by rfl)) (by rfl) (by rfl)) (by rfl) (by rfl) (by rfl) (by rfl) (by decide)
  refine @comp_range _ _ _ _ _ _ _ _ _ _ _ _ _ _ _ _ _ _ _ _ _ _ _ _ _ Z hh (Z.get (.head _)) (by lia) (by lia) (fun i ys newsI => ys.length = i ∧ ∀ j, j < i → ∃ d t1 t2, ys[j]? = some (.ref d) ∧ (d, tupO #[.int (qOf script (1 + j) : Nat) t1, .int (rOf script (1 + j) : Nat) t2]) ∈ newsI) ⟨rfl, fun j hj => absurd hj (Nat.not_lt_zero _)⟩ ?_ ?_ (⟨⟨rfl, rfl⟩, ⟨rfl, rfl⟩, ⟨rfl, rfl⟩, ⟨rfl, rfl⟩, trivial⟩) (by rfl) (by rfl) (by rfl)
  · intro C D k ys newsI oI nn t' s' hk hK Zc
    obtain ⟨hy1, hy2⟩ := hK
    obtain ⟨z1, z2⟩ := div_sizes script (k := 1 + k) (by lia) (by lia)
    refine @wpAny_tests_nil _ _ _ _ _ _ _ ?_
    rw [if_pos rfl]
    refine @wp_hide _ _ _ _ _ _ _ fun Pa hPa => ?_
    refine @c_call _ _ _ _ _ _ _ _ _ _ <| @ldg _ _ _ _ _ _ _ _ _ _ _ _ Zc _ rfl ( r_callfn (i := 15) <| @a_cons _ _ _ _ _ _ _ _ _ ( @ld _ _ _ _ _ _ _ _ _ _ _ _ Zc _ rfl ( @a_cons _ _ _ _ _ _ _ _ _ ( @wpAny_BinOp _ _ _ _ _ _ _ _ _ _ <| @ld _ _ _ _ _ _ _ _ _ _ _ _ Zc _ rfl ( @wpAny_BinOp _ _ _ _ _ _ _ _ _ _ <| @ld _ _ _ _ _ _ _ _ _ _ _ _ Zc _ rfl ( @ld _ _ _ _ _ _ _ _ _ _ _ _ Zc _ rfl ( @n_mul _ _ _ _ _ _ _ _ _ _ _ _ _ _ _ (smallMul (.inl (by have := w_ok script; lia))) Zc fun t s Zc => @n_shl _ _ _ _ _ _ _ _ _ _ _ _ _ _ _ ?_ Zc fun t s Zc => @a_cons _ _ _ _ _ _ _ _ _ ( @ld _ _ _ _ _ _ _ _ _ _ _ _ Zc _ rfl ( @args_nil _ _ _ _ _ _ _ ⟨(Zc.g.fn 15 (by decide)).1, ?_⟩) (by rfl) (by rfl) (by decide) (by decide)) (by rfl)) (by rfl) (by rfl) (by decide) (by decide)) (by rfl) (by rfl) (by decide) (by decide)) (by rfl) (by rfl) (by decide) (by decide)) (by rfl)) (by rfl) (by rfl) (by decide) (by decide)) (by rfl)) (by rfl) (by rfl) (by rfl) (by decide)
    · have hwk : wOf script * (1 + k) ≤ 1208 * 10 := Nat.mul_le_mul (w_ok script).2 (by lia)
      (clear room hn hrl hN hul wb1 hk hy1 z1 z2; lia)
    refine @s_divided _ _ _ _ _ _ _ _ _ _ _ Zc.g (by lia) hh (by lia) ?_ z1 (by unfold whOf at z2; exact z2) fun q r s' d t1 t2 lt fd e1 e2 => ?_
    · have := Nat.mul_pos (sh_pos script) (Nat.two_pow_pos (wOf script * (1 + k)))
      (clear room hn hrl hN hul wb1 wb2 hk hy1 z1 z2; omega)
    have Zc := Zc.join1 lt ⟨e1, nofun, e2⟩
    obtain ⟨rfl, rfl⟩ := quot_rest (ds_lt script) (by rw [ds_len]; lia) (sh_pos script) fd
    refine hPa _ _ ⟨_, Zc, by simp [hy1], fun j hj => ?_⟩
    rcases Nat.lt_or_eq_of_le (Nat.le_of_lt_succ hj) with hj | rfl
    · obtain ⟨d', u1, u2, g1, g2⟩ := hy2 j hj
      exact ⟨d', u1, u2, by rw [List.getElem?_append_left (by lia)]; exact g1, .tail _ g2⟩
    · exact ⟨d, t1, t2, by rw [List.getElem?_append_right (by lia)]; simp [hy1], .head _⟩
  · intro C D ys nn newsI s' mc hK Zc
    obtain ⟨hy1, hy2⟩ := hK
    refine comp_end Z Zc fun s Z => ?_
    refine @r_ladd _ _ _ _ _ _ _ _ _ _ _ _ _ _ _ _ _ Z (Z.get (.tail _ (List.mem_append_right _ (.tail _ (.head _))))) (Z.get (.head _)) (by simp [hy1]; lia) fun pt s Z => ?_
    refine @stc _ _ _ _ _ _ _ _ _ _ _ _ Z _ rfl (by lia) (fun s Z => ?_) (by rfl) (by rfl)
    rw [show ([Value.ref d0].toArray ++ ys.toArray) = (.ref d0 :: ys).toArray by simp] at Z
    refine next _ _ _ pt Z ⟨m2, ⟨_, rfl⟩, ⟨_, rfl⟩, ⟨_, rfl⟩, ⟨_, rfl⟩, rfl⟩ ⟨us, nu, ?_, hr2⟩ ⟨_, _, .head _, by rw [List.length_cons, hy1]; lia, fun k k1 k2 => ?_⟩
    · exact .tail _ (.tail _ (List.mem_append_right _ (.tail _ (.tail _ (.tail _ (.tail _ hr1))))))
    · obtain ⟨d', u1, u2, g1, g2⟩ := hy2 (k - 1) (by lia)
      rw [show 1 + (k - 1) = k by lia] at g2
      refine ⟨d', u1, u2, ?_, .tail _ (.tail _ (List.mem_append_left _ g2))⟩
      rw [show k = (k - 1) + 1 by lia, List.getElem?_cons_succ]; exact g1
end
end Mine
namespace Mine
open PySem PySem.W PySem.Calls PyProof.Rows PySem.Builtin.Str
section
variable {w : World} {T : Tops} {s₀ s : Shared} {env : Env} {m : Str → Option Value} {mus news : List (Addr × Obj)} {A : Around} {E : Value → Shared → Prop} {Q : Value → Shared → Prop}
theorem st_tup {value slice : Expr} {d : Addr} {xs : Array Value} {k : Nat} {u : Tok} {v : Value} (hd : s.heap.get? d = some (tupO xs)) (hx : xs[k]? = some v) (hk : k < 2 ^ 60) (h : Q v s)
    (hs : subscripted slice false (.ref d) (.int (k : Int) u) = operate [.ref d, .int (k : Int) u] (getItem (.ref d) (.int (k : Int) u)) := by with_unfolding_all rfl) : wpAny (model P31 w) A (subscriptTail value slice (.ref d) (.int (k : Int) u)) Q E s := by
  have ht : IsTup s.heap d xs := ⟨_, hd, rfl, _, rfl⟩
  have hlt : k < xs.size := (Array.getElem?_eq_some_iff.mp hx).1
  refine st_builtin (T := "tuple") ⟨_, hd, rfl⟩ slot_tuple_getitem.lookup (getItem_tuple (j := k) (x := v) ht (by lia) (by lia) ?_ hx h) hs
  unfold seqIndex?
  simp; lia
theorem st_listN {value slice : Expr} {l : Addr} {xs : Array Value} {n k : Nat} {u : Tok} {v : Value} (hl : s.heap.get? l = some (lstO xs n)) (hx : xs[k]? = some v) (hk : k < 2 ^ 60) (h : Q v s)
    (hs : subscripted slice false (.ref l) (.int (k : Int) u) = operate [.ref l, .int (k : Int) u] (getItem (.ref l) (.int (k : Int) u)) := by with_unfolding_all rfl) : wpAny (model P31 w) A (subscriptTail value slice (.ref l) (.int (k : Int) u)) Q E s :=
  @st_list _ _ _ _ _ _ _ _ _ _ _ _ (isL_lst.list hl) (by lia) (by omega) (by rw [Int.toNat_natCast]; exact hx) h hs
end
theorem sh_wide {script : List Int} : Builtin.Int.intBits ((1 : Nat) : Int) + wOf script ≤ 2 ^ 27 := by
  have h1 : Builtin.Int.intBits ((1 : Nat) : Int) = 1 := by decide
  have := w_ok script
  lia
theorem row_digit {script : List Int} {k : Nat} (hk : k < nOf script) : (((dsOf script).getD k 0 : Nat) : Int) = ((rowD script).reverse).getD k 0 := by
  unfold dsOf
  have hk' : k < (rowD script).reverse.length := by rw [List.length_reverse]; exact hk
  have hv := rowD_vals (List.mem_reverse.mp (List.getElem_mem hk'))
  rw [List.getD_eq_getElem?_getD, List.getD_eq_getElem?_getD, List.getElem?_map, List.getElem?_eq_getElem hk']
  show (((rowD script).reverse[k]).toNat : Int) = (rowD script).reverse[k]
  lia
/-- the test of the period, as the code makes it -/
theorem per_test {script : List Int} {p : Nat} (hp : p ≤ nOf script) : (((qOf script p * shOf script : Nat) : Int) == ((rOf script (nOf script - p) : Nat) : Int)) = isPer (rowD script) p := by
  rw [Bool.eq_iff_iff, beq_iff_eq, isPer_iff hp]
  have h1 := per_digits (ds_lt script) (p := p) (by rw [ds_len]; exact hp) (sh_pos script)
  rw [ds_len] at h1
  have h2 : Per (dsOf script) p ↔ Per (rowD script) p := by
    unfold dsOf
    rw [per_map (fun a ha b hb e => by
      have ha := rowD_vals (List.mem_reverse.mp ha)
      have hb := rowD_vals (List.mem_reverse.mp hb)
      lia), per_reverse_iff]
  rw [← h2, ← h1]
  unfold qOf rOf
  constructor
  · intro e; exact_mod_cast e
  · intro e; exact_mod_cast e
noncomputable def natsI (l : List Nat) : List Int := l.map (fun (k : Nat) => (k : Int))
section
variable {w : World} {T : Tops} {s₀ s : Shared} {m : Str → Option Value} {news : List (Addr × Obj)} {A : Around} {Q : Value → Shared → Prop} {rw pt : Addr} {script : List Int}
/-- what the names hold after the periods -/
structure MC (script : List Int) (m : Str → Option Value) (rw pl : Addr) : Prop where
  row : m "row" = some (.ref rw)
  count : ∃ t, m "count" = some (.int (nOf script : Nat) t)
  way : ∃ t, m "way" = some (.int (script.sum % 4) t)
  periods : m "periods" = some (.ref pl)
  period : ∃ t, m "period" = some (.int (minP (rowD script) : Nat) t)
noncomputable def PersAt (script : List Int) (pl : Addr) (news : List (Addr × Obj)) : Prop := ∃ us n, (pl, lstO (List.toArray us) n) ∈ news ∧ IntsAre us (natsI (periodsL (rowD script)))
theorem PersAt.mono {script : List Int} {pl : Addr} {news news' : List (Addr × Obj)} (h : PersAt script pl news) (hs : ∀ p ∈ news, p ∈ news') : PersAt script pl news' := let ⟨us, n, a, b⟩ := h; ⟨us, n, hs _ a, b⟩
theorem law_C1 (Z : S18 w T s₀ m news s) (hh : A.handled = none) (hu : A.units + 20 < cLine) (B : MB script m rw pt) (hr : RowAt script rw news) (hp : PartsAt script pt news)
    (next : ∀ m news s pl, S18 w T s₀ m news s → MC script m rw pl → RowAt script rw news → PersAt script pl news → P18 w A 12 T Q s₀ s) : P18 w A 9 T Q s₀ s := by
  have hrl := rowD_len script
  have hN : (rowD script).length = nOf script := rfl
  obtain ⟨us, nu, hr1, hr2⟩ := hr
  have hul := hr2.length
  obtain ⟨arr, na, hp1, hp2, hp3⟩ := hp
  obtain ⟨mrow, ⟨tc, mcount⟩, ⟨tw, mwide⟩, ⟨ty, mway⟩, ⟨tsh, mshare⟩, mparts⟩ := B
  obtain ⟨wb1, wb2, wb3⟩ := wh_bits script
  refine @wpAny_execs_cons _ _ _ _ _ _ _ _ <| @wpAny_If _ _ _ _ _ _ _ _ _ _ <| @wpAny_isTrue_Compare1 _ _ _ _ _ _ _ _ _ _ _ (?_) (by with_unfolding_all rfl)
  refine Comp_ (cl := [("wide", s₀.heap.objs.size + 2)]) ?_
  refine @Subscript_ _ _ _ _ _ _ _ _ _ <| @ld _ _ _ _ _ _ _ _ _ _ _ _ Z _ mparts ( @wpAny_Slice _ _ _ _ _ _ _ _ _ _ <| @wpAny_evalPart_some _ _ _ _ _ _ _ <| @k_int _ _ _ _ _ _ _ _ _ _ _ _ _ _ Z fun t s Z => @wpAny_evalPart_none _ _ _ _ _ _ <| @wpAny_evalPart_none _ _ _ _ _ _ <| ll_from (a := 1) Z (Z.get hp1) isL_lst (by simp; lia) fun d s Z => ?_) (by rfl) (by rfl) (by decide) (by decide)
  refine @comp_list _ _ _ _ _ _ _ _ _ _ _ _ _ _ _ _ _ _ _ _ _ _ Z hh (Z.get (.head _)) isL_lst (by simp; lia) (fun i ys _ => IntsAre ys (((rowD script).reverse.drop 1).take i)) .nil ?_ ?_ (⟨⟨rfl, rfl⟩, trivial⟩) (by rfl) (by rfl) (by rfl)
  · intro C D i ys newsI oI nn v s' hi hK hv Zc
    have hi : i < nOf script - 1 := by simpa [hp2] using hi
    have hv : arr[1 + i]? = some v := by
      rw [List.getElem?_toArray] at hv
      rw [← List.getElem?_drop]; exact hv
    obtain ⟨d', t1, t2, g1, g2⟩ := hp3 (1 + i) (by lia) (by lia)
    rw [hv] at g1
    obtain rfl := Option.some.inj g1
    refine @wpAny_tests_nil _ _ _ _ _ _ _ ?_
    rw [if_pos rfl]
    refine @wp_hide _ _ _ _ _ _ _ fun Pa hPa => ?_
    have g3 := Zc.gr.keep (Z.get (.tail _ g2)) (by nofun)
    refine @wpAny_BinOp _ _ _ _ _ _ _ _ _ _ <| @Subscript_ _ _ _ _ _ _ _ _ _ <| @ld _ _ _ _ _ _ _ _ _ _ _ _ Zc _ rfl ( @k_int _ _ _ _ _ _ _ _ _ _ _ _ _ _ Zc fun t s Zc => st_tup (k := 0) (Zc.gr.keep (Z.get (.tail _ g2)) (by nofun)) rfl (by decide) <| @wpAny_BinOp _ _ _ _ _ _ _ _ _ _ <| @k_int _ _ _ _ _ _ _ _ _ _ _ _ _ _ Zc fun t s Zc => @ld _ _ _ _ _ _ _ _ _ _ _ _ Zc _ mwide ( n_shl (a := 1) sh_wide Zc fun t s Zc => @i_mod _ _ _ _ _ _ _ _ _ _ _ _ _ _ _ (by have := Nat.two_pow_pos (wOf script); lia) Zc fun t s Zc => ?_) (by rfl) (by rfl) (by decide) (by decide)) (by rfl) (by rfl) (by decide) (by decide)
    refine hPa _ _ ⟨_, Zc, ?_⟩
    have e1 : ((qOf script (1 + i) : Nat) : Int) % ((1 * 2 ^ wOf script : Nat) : Int) = ((rowD script).reverse).getD (1 + i) 0 := by
      rw [← row_digit (by omega), ← head_digit (ds_lt script) (by rw [ds_len]; omega), Nat.one_mul]
      rfl
    rw [e1]
    have ht : ((rowD script).reverse.drop 1).take (i + 1) = ((rowD script).reverse.drop 1).take i ++ [(rowD script).reverse.getD (1 + i) 0] := by
      rw [List.take_add_one, List.getElem?_drop, List.getD_eq_getElem?_getD, List.getElem?_eq_getElem (by rw [List.length_reverse]; lia)]; rfl
    show IntsAre _ (((rowD script).reverse.drop 1).take (i + 1))
    rw [ht]
    exact ints_snoc hK
  · intro C D ys nn newsI s' mc hK Zc
    have hsz : (List.drop 1 arr).toArray.size = ((rowD script).reverse.drop 1).length := by simp [hp2]
    have hK : IntsAre ys ((rowD script).reverse.drop 1) := by
      have h1 : (List.drop 1 arr.toArray.toList).toArray.size = ((rowD script).reverse.drop 1).length := by simp [hp2]
      rw [h1, List.take_length] at hK; exact hK
    refine comp_end Z Zc fun s Z => ?_
    refine @Subscript_ _ _ _ _ _ _ _ _ _ <| @Subscript_ _ _ _ _ _ _ _ _ _ <| @ld _ _ _ _ _ _ _ _ _ _ _ _ Z _ mrow ( @wpAny_Slice _ _ _ _ _ _ _ _ _ _ <| @wpAny_evalPart_none _ _ _ _ _ _ <| @wpAny_evalPart_none _ _ _ _ _ _ <| @wpAny_evalPart_some _ _ _ _ _ _ _ <| eval_lit (i := -1) rfl Z fun t s Z => @sl_rev _ _ _ _ _ _ _ _ _ _ _ _ _ _ _ _ _ Z (Z.get (.tail _ (List.mem_append_right _ (.tail _ hr1)))) isL_lst (by simp; lia) (fun d2 s Z => @wpAny_Slice _ _ _ _ _ _ _ _ _ _ <| @wpAny_evalPart_some _ _ _ _ _ _ _ <| @k_int _ _ _ _ _ _ _ _ _ _ _ _ _ _ Z fun t s Z => @wpAny_evalPart_none _ _ _ _ _ _ <| @wpAny_evalPart_none _ _ _ _ _ _ <| ll_from (a := 1) Z (Z.get (.head _)) isL_lst (by simp; omega) fun d3 s Z => ?_) (by with_unfolding_all rfl)) (by rfl) (by rfl) (by decide) (by decide)
    refine r_neInts (us := (us.reverse).drop 1) Z (by lia) (Z.get (.tail _ (.tail _ (.head _)))) isL_lst (Z.get (.head _)) (by simpa using isL_lst) hK (hr2.reverse.drop 1) <| @wpAny_truthy_bool _ _ _ _ _ _ ?_
    rw [if_neg (by simp)]
    refine @wpAny_execs_nil _ _ _ _ _ _ ?_
    refine @St.withS _ _ _ _ _ _ _ _ _ Z fun news' up0 Z => ?_
    have up : ∀ p ∈ news, p ∈ news' := fun p hp => up0 _ (.tail _ (.tail _ (.tail _ (List.mem_append_right _ (.tail _ hp)))))
    refine @wpAny_execs_cons _ _ _ _ _ _ _ _ <| @wpAny_Assign_Name _ _ _ _ _ _ _ _ _ _ ( @wpAny_BinOp _ _ _ _ _ _ _ _ _ _ <| Comp_ (cl := [("share", s₀.heap.objs.size + 4), ("parts", s₀.heap.objs.size + 6), ("count", s₀.heap.objs.size + 1)]) ?_) (by rfl)
    refine @c_call _ _ _ _ _ _ _ _ _ _ <| @ldb _ _ _ _ _ _ _ _ _ _ _ _ Z _ rfl ( @c_typ _ _ _ _ _ _ _ _ _ _ ( @a_cons _ _ _ _ _ _ _ _ _ ( @k_int _ _ _ _ _ _ _ _ _ _ _ _ _ _ Z fun t s Z => @a_cons _ _ _ _ _ _ _ _ _ ( @ld _ _ _ _ _ _ _ _ _ _ _ _ Z _ mcount ( @args_nil _ _ _ _ _ _ _ <| r_range2 (a := 1) (b := nOf script) Z fun R v s Z => ?_) (by rfl) (by rfl) (by decide) (by decide)) (by rfl)) (by rfl)) (by rfl) (by rfl)) (by rfl) (by rfl) (by rfl) (by rfl) (by decide)
    refine @comp_range _ _ _ _ _ _ _ _ _ _ _ _ _ _ _ _ _ _ _ _ _ _ _ _ _ Z hh (Z.get (.head _)) (by lia) (by lia) (fun i ys _ => IntsAre ys (natsI ((List.range' 1 i).filter (isPer (rowD script))))) .nil ?_ ?_ (⟨⟨rfl, rfl⟩, ⟨rfl, rfl⟩, ⟨rfl, rfl⟩, trivial⟩) (by rfl) (by rfl) (by rfl)
    · intro C D i ys newsI oI nn t' s' hi hK Zc
      obtain ⟨d1, u1, u2, g1, g2⟩ := hp3 (1 + i) (by omega) (by omega)
      obtain ⟨d2, v1, v2, g3, g4⟩ := hp3 (nOf script - (1 + i)) (by lia) (by (clear hu wb1 wb2 hsz hi; omega))
      have gp := Zc.gr.keep (Z.get (.tail _ (up _ hp1))) (by nofun)
      have gd1 := Zc.gr.keep (Z.get (.tail _ (up _ g2))) (by nofun)
      have gd2 := Zc.gr.keep (Z.get (.tail _ (up _ g4))) (by nofun)
      have hpt := per_test (script := script) (p := 1 + i) (by lia)
      have hst : natsI ((List.range' 1 (i + 1)).filter (isPer (rowD script))) = natsI ((List.range' 1 i).filter (isPer (rowD script))) ++ if isPer (rowD script) (1 + i) then [((1 + i : Nat) : Int)] else [] := by
        rw [List.range'_1_concat, List.filter_append, natsI, List.map_append]
        congr 1
        rw [List.filter_cons, List.filter_nil]
        split <;> rfl
      have keep : ∀ b o, Zc.gr.keep (b := b) (o := o) = Zc.gr.keep := fun _ _ => rfl
      refine @wpAny_tests_one _ _ _ _ _ _ _ _ <| @wpAny_isTrue_Compare1 _ _ _ _ _ _ _ _ _ _ _ ( @wpAny_BinOp _ _ _ _ _ _ _ _ _ _ <| @Subscript_ _ _ _ _ _ _ _ _ _ <| @Subscript_ _ _ _ _ _ _ _ _ _ <| @ld _ _ _ _ _ _ _ _ _ _ _ _ Zc _ mparts ( @ld _ _ _ _ _ _ _ _ _ _ _ _ Zc _ rfl ( @st_listN _ _ _ _ _ _ _ _ _ _ _ _ _ gp (by rw [List.getElem?_toArray]; exact g1) (by lia) ( @k_int _ _ _ _ _ _ _ _ _ _ _ _ _ _ Zc fun t s Zc => ?_) (by with_unfolding_all rfl)) (by rfl) (by rfl) (by decide) (by decide)) (by rfl) (by rfl) (by decide) (by decide)) (by with_unfolding_all rfl)
      refine st_tup (k := 0) (Zc.gr.keep (Z.get (.tail _ (up _ g2))) (by nofun)) rfl (by decide) <| @ld _ _ _ _ _ _ _ _ _ _ _ _ Zc _ mshare ( @n_mul _ _ _ _ _ _ _ _ _ _ _ _ _ _ _ (mulOk (by have := wb3 (1 + i); lia)) Zc fun t s Zc => ?_) (by rfl) (by rfl) (by decide) (by decide)
      refine @Subscript_ _ _ _ _ _ _ _ _ _ <| @Subscript_ _ _ _ _ _ _ _ _ _ <| @ld _ _ _ _ _ _ _ _ _ _ _ _ Zc _ mparts ( @wpAny_BinOp _ _ _ _ _ _ _ _ _ _ <| @ld _ _ _ _ _ _ _ _ _ _ _ _ Zc _ mcount ( @ld _ _ _ _ _ _ _ _ _ _ _ _ Zc _ rfl ( n_sub (a := nOf script) (by omega) Zc fun t s Zc => @st_listN _ _ _ _ _ _ _ _ _ _ _ _ _ (Zc.gr.keep (Z.get (.tail _ (up _ hp1))) (by nofun)) (by rw [List.getElem?_toArray]; exact g3) (by omega) ( @k_int _ _ _ _ _ _ _ _ _ _ _ _ _ _ Zc fun t s Zc => ?_) (by with_unfolding_all rfl)) (by rfl) (by rfl) (by decide) (by decide)) (by rfl) (by rfl) (by decide) (by decide)) (by rfl) (by rfl) (by decide) (by decide)
      refine st_tup (k := 1) (Zc.gr.keep (Z.get (.tail _ (up _ g4))) (by nofun)) rfl (by decide) <| @eq_int _ _ _ _ _ _ _ _ _ _ <| @wpAny_truthy_bool _ _ _ _ _ _ ?_
      rw [hpt]
      cases hb : isPer (rowD script) (1 + i) with
      | true =>
        rw [if_pos rfl]
        rw [hb] at hst
        refine @ld _ _ _ _ _ _ _ _ _ _ _ _ Zc _ rfl (⟨_, Zc, ?_⟩) (by rfl) (by rfl) (by decide) (by decide)
        show IntsAre _ (natsI ((List.range' 1 (i + 1)).filter (isPer (rowD script))))
        rw [hst]; exact ints_snoc hK
      | false =>
        rw [if_neg (by decide)]
        rw [hb] at hst
        refine ⟨_, Zc, ?_⟩
        show IntsAre _ (natsI ((List.range' 1 (i + 1)).filter (isPer (rowD script))))
        rw [hst]
        show IntsAre _ (_ ++ [])
        rw [List.append_nil]; exact hK
    · intro C D ys nn newsI s' mc hK Zc
      refine comp_end Z Zc fun s Z => ?_
      have hfl : ((List.range' 1 (nOf script - 1)).filter (isPer (rowD script))).length ≤ nOf script - 1 := by
        have := List.length_filter_le (isPer (rowD script)) (List.range' 1 (nOf script - 1))
        rw [List.length_range'] at this; exact this
      have hyl := hK.length
      have hyl2 : ys.length ≤ 10 := by rw [hyl, natsI, List.length_map]; lia
      refine @List_ _ _ _ _ _ _ _ _ <| @a_cons _ _ _ _ _ _ _ _ _ ( @ld _ _ _ _ _ _ _ _ _ _ _ _ Z _ mcount ( @args_nil _ _ _ _ _ _ _ <| @r_newlist _ _ _ _ _ _ _ _ _ _ _ _ Z (by simp) fun d8 s Z => @r_ladd _ _ _ _ _ _ _ _ _ _ _ _ _ _ _ _ _ Z (Z.get (.tail _ (.head _))) (Z.get (.head _)) (by simp; lia) fun pl s Z => ?_) (by rfl) (by rfl) (by decide) (by decide)) (by rfl)
      rw [show (ys.toArray ++ [Value.int (nOf script : Nat) tc].toArray) = (ys ++ [Value.int (nOf script : Nat) tc]).toArray by simp] at Z
      have hP : IntsAre (ys ++ [Value.int (nOf script : Nat) tc]) (natsI (periodsL (rowD script))) := by
        unfold periodsL natsI
        rw [List.map_append]
        exact ints_snoc hK
      refine @stl _ _ _ _ _ _ _ _ _ _ _ Z _ (fun s Z => ?_) (by rfl) (by rfl) (by rfl)
      have h0 : (natsI (periodsL (rowD script)))[0]? = some ((minP (rowD script) : Nat) : Int) := by
        unfold natsI minP
        have hne : periodsL (rowD script) ≠ [] := by unfold periodsL; simp
        cases hc : periodsL (rowD script) with
        | nil => exact absurd hc hne
        | cons a r => rfl
      obtain ⟨t0, h1⟩ := hP.get 0 _ h0
      refine @wpAny_execs_cons _ _ _ _ _ _ _ _ <| @wpAny_Assign_Name _ _ _ _ _ _ _ _ _ _ ( @Subscript_ _ _ _ _ _ _ _ _ _ <| @ld _ _ _ _ _ _ _ _ _ _ _ _ Z _ rfl ( @k_int _ _ _ _ _ _ _ _ _ _ _ _ _ _ Z fun t s Z => st_listN (k := 0) (Z.get (.head _)) (by rw [List.getElem?_toArray]; exact h1) (by decide) <| @stl _ _ _ _ _ _ _ _ _ _ _ Z _ (fun s Z => ?_) (by rfl) (by rfl) (by rfl)) (by rfl) (by rfl) (by decide) (by decide)) (by rfl)
      exact next _ _ _ pl Z ⟨mrow, ⟨_, mcount⟩, ⟨_, mway⟩, rfl, ⟨_, rfl⟩⟩ ⟨us, nu, .tail _ (.tail _ (.tail _ (List.mem_append_right _ (.tail _ (up _ hr1))))), hr2⟩ ⟨_, _, .head _, hP⟩
end
end Mine
namespace Mine
open PySem PySem.W PySem.Calls PyProof.Rows PySem.Builtin.Str
theorem max_two_mem {a b : Nat} {M : Int} (hm : M ∈ [(a : Int), (b : Int)]) (hle : ∀ z ∈ [(a : Int), (b : Int)], z ≤ M) : M = ((max a b : Nat) : Int) := by
  have h1 := hle a (by simp)
  have h2 := hle b (by simp)
  simp only [List.mem_cons, List.not_mem_nil, or_false] at hm
  lia
section
variable {w : World} {T : Tops} {s₀ s : Shared} {m : Str → Option Value} {news : List (Addr × Obj)} {A : Around} {Q : Value → Shared → Prop} {rw pl : Addr} {script : List Int}
theorem law_C2 (Z : S18 w T s₀ m news s) (room : A.depth + 20 ≤ recursionLimit) (hh : A.handled = none) (hu : A.units + 20 < cLine) (B : MC script m rw pl) (hr : RowAt script rw news) (hp : PersAt script pl news)
    (next : ∀ m news s x t, S18 w T s₀ m news s → MC script m rw pl → m "signs" = some (.str x t) → Signs x (rowD script) → PersAt script pl news → P18 w A 16 T Q s₀ s) : P18 w A 12 T Q s₀ s := by
  have hrl := rowD_len script
  have hN : (rowD script).length = nOf script := rfl
  obtain ⟨us, nu, hr1, hr2⟩ := hr
  have hul := hr2.length
  obtain ⟨mrow, ⟨tc, mcount⟩, ⟨ty, mway⟩, mpers, ⟨tp, mper⟩⟩ := B
  refine @wpAny_execs_cons _ _ _ _ _ _ _ _ <| @wpAny_Assign_Name _ _ _ _ _ _ _ _ _ _ ( @MethodCall_ _ _ _ _ _ _ _ _ _ _ _ _ ( @k_str _ _ _ _ _ _ _ _ _ _ _ _ _ _ Z fun t s Z => @PySem.GM.join _ _ _ _ _ _ _ _ <| @c_meth _ _ _ _ _ _ _ _ _ _ _ ( @a_cons _ _ _ _ _ _ _ _ _ ( Comp_ (cl := []) <| @ld _ _ _ _ _ _ _ _ _ _ _ _ Z _ mrow (?_) (by rfl) (by rfl) (by decide) (by decide)) (by rfl)) (by rfl) (by rfl)) (by rfl)) (by rfl)
  refine @comp_list _ _ _ _ _ _ _ _ _ _ _ _ _ _ _ _ _ _ _ _ _ _ Z hh (Z.get hr1) isL_lst (by simp; lia) (fun i ys _ => ∃ l : List (Str × Tok), ys = strValues l ∧ l.length = i ∧ (∀ p ∈ l, p.1.length = 1) ∧ (l.map fun p => tl p.1).flatten = ((rowD script).take i).map sg) ⟨[], rfl, rfl, nofun, rfl⟩ ?_ ?_ (trivial) (by rfl) (by rfl) (by rfl)
  · intro C D i ys newsI oI nn v s' hi hK hv Zc
    refine @goal_hide _ fun G hG => ?_
    obtain ⟨l, rfl, hll, h1, hl⟩ := hK
    have hi : i < (rowD script).length := by simpa [hul] using hi
    obtain ⟨tv, hvx⟩ := hr2.get i _ (List.getElem?_eq_getElem hi)
    obtain rfl : v = .int (rowD script)[i] tv := by
      rw [List.getElem?_toArray, hvx] at hv
      exact (Option.some.inj hv).symm
    have hvals := rowD_vals (List.getElem_mem hi)
    have htk : (rowD script).take (i + 1) = (rowD script).take i ++ [(rowD script)[i]] := by rw [List.take_add_one, List.getElem?_eq_getElem hi]; rfl
    generalize (rowD script)[i] = a at *
    have step : ∀ (z : Str) t', tl z = [sg a] → (∃ l' : List (Str × Tok), strValues l ++ [.str z t'] = strValues l' ∧ l'.length = i + 1 ∧ (∀ p ∈ l', p.1.length = 1) ∧ (l'.map fun p => tl p.1).flatten = ((rowD script).take (i + 1)).map sg) := by
      intro z t' hz
      rw [htk]
      refine ⟨l ++ [(z, t')], by simp [strValues], by simp [hll], fun p hp => ?_, ?_⟩
      · rcases List.mem_append.mp hp with hp | hp
        · exact h1 p hp
        · rw [List.mem_singleton.mp hp, ← tl_len, hz]; rfl
      · rw [List.map_append, List.flatten_append, hl, List.map_append]
        simp [hz]
    refine hG ?_
    clear hG
    refine @wpAny_tests_nil _ _ _ _ _ _ _ ?_
    rw [if_pos rfl]
    refine @wp_hide _ _ _ _ _ _ _ fun Pa hPa => ?_
    refine @IfExp_ _ _ _ _ _ _ _ _ _ _ <| @wpAny_isTrue_Compare1 _ _ _ _ _ _ _ _ _ _ _ ( @ld _ _ _ _ _ _ _ _ _ _ _ _ Zc _ rfl ( @k_int _ _ _ _ _ _ _ _ _ _ _ _ _ _ Zc fun t s Zc => @gt_int _ _ _ _ _ _ _ _ _ _ <| @wpAny_truthy_bool _ _ _ _ _ _ ?_) (by rfl) (by rfl) (by decide) (by decide)) (by with_unfolding_all rfl)
    by_cases ha : a > 255
    · rw [if_pos (by simpa using ha)]
      refine @k_str _ _ _ _ _ _ _ _ _ _ _ _ _ _ Zc fun t s Zc => hPa _ _ ⟨_, Zc, step _ _ ?_⟩
      unfold sg; rw [if_pos ha]; decide
    · rw [if_neg (by simpa using ha)]
      refine @c_call _ _ _ _ _ _ _ _ _ _ <| @ldb _ _ _ _ _ _ _ _ _ _ _ _ Zc _ rfl ( @c_blt _ _ _ _ _ _ _ _ _ _ ( @a_cons _ _ _ _ _ _ _ _ _ ( @wpAny_BinOp _ _ _ _ _ _ _ _ _ _ <| @k_int _ _ _ _ _ _ _ _ _ _ _ _ _ _ Zc fun t s Zc => @ld _ _ _ _ _ _ _ _ _ _ _ _ Zc _ rfl ( @r_add _ _ _ _ _ _ _ _ _ _ _ _ _ _ _ Zc fun t s Zc => @args_nil _ _ _ _ _ _ _ <| @chr_of_range _ _ _ _ _ _ _ _ (by (clear room hu hrl hN hul hll hi ha; omega)) (by lia) ?_) (by rfl) (by rfl) (by decide) (by decide)) (by rfl)) (by rfl) (by rfl)) (by rfl) (by rfl) (by rfl) (by rfl) (by decide)
      refine hPa _ _ ⟨_, Zc.tok, step _ _ ?_⟩
      unfold sg; rw [if_neg ha]
  · intro C D ys nn newsI s' mc hK Zc
    refine @goal_hide _ fun G hG => ?_
    obtain ⟨l, rfl, hll, h1, hl⟩ := hK
    refine hG ?_
    clear hG
    refine comp_end Z Zc fun s Z => @args_nil _ _ _ _ _ _ _ <| @r_join _ _ _ _ _ _ _ _ _ _ _ _ _ _ _ _ _ Z (Z.get (.head _)) rfl ?_ fun tsg s Z => ?_
    · have : (l.map (·.1)).map (·.length) = List.replicate l.length 1 := by
        rw [List.map_map]
        refine List.eq_replicate_iff.mpr ⟨by simp, fun b hb => ?_⟩
        obtain ⟨p, hp, rfl⟩ := List.mem_map.mp hb
        exact h1 p hp
      rw [this, List.sum_replicate_nat]
      simp at hll
      show l.length * 1 + (l.map (·.1)).length * 0 ≤ _
      lia
    have hx : tl (Txt.join "" (l.map (·.1))) = (rowD script).map sg := by
      rw [join0, List.map_map]
      have e : (rowD script).take us.toArray.size = rowD script := List.take_of_length_le (by simp; lia)
      rw [e] at hl
      exact hl
    obtain ⟨x, hxe⟩ := hide_eq (Txt.join "" (l.map (·.1)))
    rw [hxe] at hx ⊢
    have S := rowD_signs hx
    have hxn := S.len
    have b1 := (begS_max (e := 1) (.inl rfl) S.pos).1
    have b2 := (begS_max (e := -1) (.inr rfl) S.pos).1
    refine @St.withS _ _ _ _ _ _ _ _ _ Z fun news' up0 Z => ?_
    have up : ∀ p ∈ news, p ∈ news' := fun p hp => up0 _ (.tail _ (List.mem_append_right _ hp))
    refine @stc _ _ _ _ _ _ _ _ _ _ _ _ Z _ rfl (by lia) (fun s Z => ?_) (by rfl) (by rfl)
    refine @wpAny_execs_cons _ _ _ _ _ _ _ _ <| Assign_Comp (cl := [("signs", s₀.heap.objs.size + 7)]) <| @c_call _ _ _ _ _ _ _ _ _ _ <| @ldb _ _ _ _ _ _ _ _ _ _ _ _ Z _ rfl ( @c_typ _ _ _ _ _ _ _ _ _ _ ( @a_cons _ _ _ _ _ _ _ _ _ ( @ld _ _ _ _ _ _ _ _ _ _ _ _ Z _ mcount ( @args_nil _ _ _ _ _ _ _ <| r_range1 (b := nOf script) Z fun R t v s Z => ?_) (by rfl) (by rfl) (by decide) (by decide)) (by rfl)) (by rfl) (by rfl)) (by rfl) (by rfl) (by rfl) (by rfl) (by decide)
    refine @comp_range _ _ _ _ _ _ _ _ _ _ _ _ _ _ _ _ _ _ _ _ _ _ _ _ _ Z hh (Z.get (.head _)) (by lia) (by lia) (fun i ys _ => IntsAre ys ((List.range i).map fun c => ((roundL x c : Nat) : Int))) .nil ?_ ?_ (⟨⟨rfl, rfl⟩, trivial⟩) (by rfl) (by rfl) (by rfl)
    · intro C D i ys newsI oI nn t' s' hi hK Zc
      rw [Nat.zero_add] at Zc ⊢
      refine @wpAny_tests_nil _ _ _ _ _ _ _ ?_
      rw [if_pos rfl]
      refine @c_call _ _ _ _ _ _ _ _ _ _ <| @ldg _ _ _ _ _ _ _ _ _ _ _ _ Zc _ rfl ( r_callfn (i := 16) <| @a_cons _ _ _ _ _ _ _ _ _ ( @ld _ _ _ _ _ _ _ _ _ _ _ _ Zc _ rfl ( @a_cons _ _ _ _ _ _ _ _ _ ( @ld _ _ _ _ _ _ _ _ _ _ _ _ Zc _ rfl ( @args_nil _ _ _ _ _ _ _ ⟨(Zc.g.fn 16 (by decide)).1, ?_⟩) (by rfl) (by rfl) (by decide) (by decide)) (by rfl)) (by rfl) (by rfl) (by decide) (by decide)) (by rfl)) (by rfl) (by rfl) (by rfl) (by decide)
      refine @s_round _ _ _ _ _ _ _ _ _ Zc.g (by lia) hh S.dl (by lia) (by lia) fun s' t lt => ⟨_, Zc.later lt, ?_⟩
      show IntsAre _ ((List.range (i + 1)).map fun c => ((roundL x c : Nat) : Int))
      rw [List.range_succ, List.map_append]
      exact ints_snoc hK
    · intro C D ys nn newsI s' mc hK Zc
      rw [Nat.sub_zero] at hK
      have hyl := hK.length
      rw [List.length_map, List.length_range] at hyl
      refine comp_endA (y := "rounds") Z Zc fun s Z => ?_
      have hget : ∀ c, c < nOf script → ∃ t, ys[c]? = some (.int ((roundL x c : Nat) : Int) t) := fun c hc => hK.get c _ (by rw [List.getElem?_map, List.getElem?_range hc]; rfl)
      refine @St.withS _ _ _ _ _ _ _ _ _ Z fun news2 up1 Z => ?_
      have up2 : ∀ p ∈ news, p ∈ news2 := fun p hp => up1 _ (.tail _ (List.mem_append_right _ (.tail _ (up p hp))))
      have mem0 : (D, lstO ys.toArray nn) ∈ news2 := up1 _ (.head _)
      have bnd : ∀ c, c < nOf script → roundL x c ≤ minP (rowD script) := fun c hc => S.round_le (by lia)
      have hmax : max (begS 1 (rowD script)) (begS (-1) (rowD script)) < nOf script := by lia
      refine @wpAny_execs_cons _ _ _ _ _ _ _ _ <| @wpAny_If _ _ _ _ _ _ _ _ _ _ <| @isTrue_or _ _ _ _ _ _ _ _ _ _ <| @wpAny_isTrue_Compare1 _ _ _ _ _ _ _ _ _ _ _ ( @Subscript_ _ _ _ _ _ _ _ _ _ <| @ld _ _ _ _ _ _ _ _ _ _ _ _ Z _ rfl ( @c_call _ _ _ _ _ _ _ _ _ _ <| @ldb _ _ _ _ _ _ _ _ _ _ _ _ Z _ rfl ( @c_blt _ _ _ _ _ _ _ _ _ _ ( @a_cons _ _ _ _ _ _ _ _ _ ( @c_call _ _ _ _ _ _ _ _ _ _ <| @ldg _ _ _ _ _ _ _ _ _ _ _ _ Z _ rfl ( r_callfn (i := 17) <| @a_cons _ _ _ _ _ _ _ _ _ ( @ld _ _ _ _ _ _ _ _ _ _ _ _ Z _ mrow ( @args_nil _ _ _ _ _ _ _ ⟨(Z.g.fn 17 (by decide)).1, ?_⟩) (by rfl) (by rfl) (by decide) (by decide)) (by rfl)) (by rfl) (by rfl) (by rfl) (by decide)) (by rfl)) (by rfl) (by rfl)) (by rfl) (by rfl) (by rfl) (by rfl) (by decide)) (by rfl) (by rfl) (by decide) (by decide)) (by with_unfolding_all rfl)
      refine @s_begins _ _ _ _ _ _ _ _ _ Z.g (by lia) hh (by lia) (Z.get (up2 _ hr1)) isL_lst hr2 (by lia) (by lia) fun s' d n8 t1 t2 lt e1 e2 => ?_
      have Z := Z.join1 lt ⟨e1, nofun, e2⟩
      refine @args_nil _ _ _ _ _ _ _ <| r_maxL (ns := [((begS 1 (rowD script) : Nat) : Int), ((begS (-1) (rowD script) : Nat) : Int)]) (vs := [.int (begS 1 (rowD script) : Nat) t1, .int (begS (-1) (rowD script) : Nat) t2]) Z hh (Z.get (.head _)) isL_lst (.cons _ _ (.cons _ _ .nil)) (by show 0 < 2; decide) fun M tM s Z hM1 hM2 => ?_
      rw [max_two_mem hM1 hM2]
      obtain ⟨tr, hgr⟩ := hget _ hmax
      refine @st_listN _ _ _ _ _ _ _ _ _ _ _ _ _ (Z.get (.tail _ mem0)) (by rw [List.getElem?_toArray]; exact hgr) (by lia) ( @ld _ _ _ _ _ _ _ _ _ _ _ _ Z _ mper ( @ne_int _ _ _ _ _ _ _ _ _ _ <| @wpAny_truthy_bool _ _ _ _ _ _ ?_) (by rfl) (by rfl) (by decide) (by decide)) (by with_unfolding_all rfl)
      rw [S.crit, if_neg (by simp)]
      refine @isTrue_or _ _ _ _ _ _ _ _ _ _ <| @wpAny_isTrue_Compare1 _ _ _ _ _ _ _ _ _ _ _ ( @c_call _ _ _ _ _ _ _ _ _ _ <| @ldb _ _ _ _ _ _ _ _ _ _ _ _ Z _ rfl ( @c_blt _ _ _ _ _ _ _ _ _ _ ( @a_cons _ _ _ _ _ _ _ _ _ ( @ld _ _ _ _ _ _ _ _ _ _ _ _ Z _ rfl ( @args_nil _ _ _ _ _ _ _ <| @r_maxL _ _ _ _ _ _ _ _ _ _ _ _ _ _ _ Z hh (Z.get (.tail _ mem0)) isL_lst hK (by rw [List.length_map, List.length_range]; lia) fun M tM s Z hM1 hM2 => ?_) (by rfl) (by rfl) (by decide) (by decide)) (by rfl)) (by rfl) (by rfl)) (by rfl) (by rfl) (by rfl) (by rfl) (by decide)) (by with_unfolding_all rfl)
      have hMe : M = ((minP (rowD script) : Nat) : Int) := by
        obtain ⟨c, hc, rfl⟩ := List.mem_map.mp hM1
        have h1 := bnd c (List.mem_range.mp hc)
        have h2 := hM2 _ (List.mem_map_of_mem (List.mem_range.mpr hmax))
        rw [S.crit] at h2
        lia
      rw [hMe]
      refine @ld _ _ _ _ _ _ _ _ _ _ _ _ Z _ mper ( @ne_int _ _ _ _ _ _ _ _ _ _ <| @wpAny_truthy_bool _ _ _ _ _ _ ?_) (by rfl) (by rfl) (by decide) (by decide)
      rw [if_neg (by simp)]
      refine @isTrue_or_nil _ _ _ _ _ _ _ _ ?_
      rw [if_neg (by decide)]
      refine @wpAny_execs_nil _ _ _ _ _ _ ?_
      have hrp : (rowD script).reverse.length = nOf script := List.length_reverse
      have SR := S.rev
      have r1 := (begS_max (e := 1) (.inl rfl) SR.pos).1
      have r2 := (begS_max (e := -1) (.inr rfl) SR.pos).1
      have hxr : (revS x).length = nOf script := by rw [SR.len, hrp]
      refine @wpAny_execs_cons _ _ _ _ _ _ _ _ <| @wpAny_If _ _ _ _ _ _ _ _ _ _ <| @wpAny_isTrue_Compare1 _ _ _ _ _ _ _ _ _ _ _ ( @c_call _ _ _ _ _ _ _ _ _ _ <| @ldg _ _ _ _ _ _ _ _ _ _ _ _ Z _ rfl ( r_callfn (i := 16) <| @a_cons _ _ _ _ _ _ _ _ _ ( @Subscript_ _ _ _ _ _ _ _ _ _ <| @ld _ _ _ _ _ _ _ _ _ _ _ _ Z _ rfl ( @wpAny_Slice _ _ _ _ _ _ _ _ _ _ <| @wpAny_evalPart_none _ _ _ _ _ _ <| @wpAny_evalPart_none _ _ _ _ _ _ <| @wpAny_evalPart_some _ _ _ _ _ _ _ <| eval_lit (i := -1) rfl Z fun t s Z => @sl_revS _ _ _ _ _ _ _ _ _ _ _ _ _ _ _ _ Z (by unfold sizeLine; lia) (fun t s Z => ?_) (by with_unfolding_all rfl)) (by rfl) (by rfl) (by decide) (by decide)) (by rfl)) (by rfl) (by rfl) (by rfl) (by decide)) (by with_unfolding_all rfl)
      refine @a_cons _ _ _ _ _ _ _ _ _ ( @c_call _ _ _ _ _ _ _ _ _ _ <| @ldb _ _ _ _ _ _ _ _ _ _ _ _ Z _ rfl ( @c_blt _ _ _ _ _ _ _ _ _ _ ( @a_cons _ _ _ _ _ _ _ _ _ ( @c_call _ _ _ _ _ _ _ _ _ _ <| @ldg _ _ _ _ _ _ _ _ _ _ _ _ Z _ rfl ( r_callfn (i := 17) <| @a_cons _ _ _ _ _ _ _ _ _ ( @Subscript_ _ _ _ _ _ _ _ _ _ <| @ld _ _ _ _ _ _ _ _ _ _ _ _ Z _ mrow ( @wpAny_Slice _ _ _ _ _ _ _ _ _ _ <| @wpAny_evalPart_none _ _ _ _ _ _ <| @wpAny_evalPart_none _ _ _ _ _ _ <| @wpAny_evalPart_some _ _ _ _ _ _ _ <| eval_lit (i := -1) rfl Z fun t s Z => @sl_rev _ _ _ _ _ _ _ _ _ _ _ _ _ _ _ _ _ Z (Z.get (.tail _ (up2 _ hr1))) isL_lst (by simp; lia) (fun d9 s Z => @args_nil _ _ _ _ _ _ _ ⟨(Z.g.fn 17 (by decide)).1, ?_⟩) (by with_unfolding_all rfl)) (by rfl) (by rfl) (by decide) (by decide)) (by rfl)) (by rfl) (by rfl) (by rfl) (by decide)) (by rfl)) (by rfl) (by rfl)) (by rfl) (by rfl) (by rfl) (by rfl) (by decide)) (by rfl)
      refine s_begins (vs := us.reverse) (row := (rowD script).reverse) Z.g (by lia) hh (by lia) (Z.get (.head _)) (by simpa using isL_lst) hr2.reverse (by lia) (by lia) fun s' d n8 t1 t2 lt e1 e2 => ?_
      have Z := Z.join1 lt ⟨e1, nofun, e2⟩
      refine @args_nil _ _ _ _ _ _ _ <| r_maxL (ns := [((begS 1 (rowD script).reverse : Nat) : Int), ((begS (-1) (rowD script).reverse : Nat) : Int)]) (vs := [.int (begS 1 (rowD script).reverse : Nat) t1, .int (begS (-1) (rowD script).reverse : Nat) t2]) Z hh (Z.get (.head _)) isL_lst (.cons _ _ (.cons _ _ .nil)) (by show 0 < 2; decide) fun M tM s Z hM1 hM2 => ?_
      rw [max_two_mem hM1 hM2]
      refine @args_nil _ _ _ _ _ _ _ ⟨(Z.g.fn 16 (by decide)).1, ?_⟩
      refine @s_round _ _ _ _ _ _ _ _ _ Z.g (by lia) hh SR.dl (by lia) (by lia) fun s' t lt => ?_
      have Z := Z.later lt
      refine @ld _ _ _ _ _ _ _ _ _ _ _ _ Z _ mper ( @ne_int _ _ _ _ _ _ _ _ _ _ <| @wpAny_truthy_bool _ _ _ _ _ _ ?_) (by rfl) (by rfl) (by decide) (by decide)
      rw [SR.crit, minP_reverse S.pos, if_neg (by simp)]
      refine @wpAny_execs_nil _ _ _ _ _ _ ?_
      obtain ⟨pu, pn, pm, pi⟩ := hp
      exact next _ _ _ x _ Z ⟨mrow, ⟨_, mcount⟩, ⟨_, mway⟩, mpers, ⟨_, mper⟩⟩ rfl S ⟨pu, pn, .tail _ (.tail _ (.tail _ (up2 _ pm))), pi⟩
end
end Mine
namespace Mine
open PySem PySem.W PySem.Calls PyProof.Rows PySem.Builtin.Str
section
variable {w : World} {T : Tops} {s₀ s : Shared} {env : Env} {m : Str → Option Value} {mus news : List (Addr × Obj)} {A : Around} {E : Value → Shared → Prop} {Q : Value → Shared → Prop}
theorem fold_rep {v : Value} : ∀ (k : Nat) (a : Array Value), List.foldl (fun x1 x2 => x1 ++ x2) a (List.replicate k #[v]) = a ++ (List.replicate k v).toArray
  | 0, a => by simp
  | k + 1, a => by
    rw [List.replicate_succ, List.foldl_cons, fold_rep k, List.replicate_succ, Array.append_assoc]
    congr 1
    simp
/-- [v] * k -/
theorem r_repC {l : Addr} {v : Value} {k n : Nat} {u : Tok} (Z : St w T s₀ env m mus news s) (hl : s.heap.get? l = some (lstO #[v] n)) (hsz : k ≤ 2 ^ 20)
    (h : ∀ d s, St w T s₀ env m ((d, lstO (List.replicate k v).toArray 0) :: mus) news s → Q (.ref d) s) : wpAny (model P31 w) A (binaryOp .Mult (.ref l) (.int (k : Int) u)) Q E s := by
  obtain ⟨hb, X, ml, F, N, K⟩ := Z.fr
  refine @mul_list _ _ _ _ _ _ _ _ _ _ _ _ _ _ _ F N hl (by lia) (by omega) (by simp; lia) fun h' F' N' => ?_
  have hD := (N' _ (.head _)).1
  have e : List.foldl (fun x1 x2 => x1 ++ x2) #[] (List.replicate (if (#[v] : Array Value).isEmpty = true then 0 else ((k : Int)).toNat) #[v]) = (List.replicate k v).toArray := by
    rw [if_neg (by simp), Int.toNat_natCast, fold_rep]; simp
  have hD : h'.get? s.heap.objs.size = some (lstO (List.foldl (fun x1 x2 => x1 ++ x2) #[] (List.replicate (if (#[v] : Array Value).isEmpty = true then 0 else ((k : Int)).toNat) #[v])) 0) := hD
  rw [e] at hD
  have Y := K h' s.toks [] F' (fun p hp => N' p (.tail _ hp)) (fun _ hp => absurd hp List.not_mem_nil)
  exact h _ _ (Y.addM Z fresh_size hD isL_lst.mu)
theorem r_laddM {l b : Addr} {xs ys : Array Value} {n k : Nat} (Z : St w T s₀ env m mus news s) (hl : s.heap.get? l = some (lstO xs n)) (hb : s.heap.get? b = some (lstO ys k)) (hsz : xs.size + ys.size ≤ 2 ^ 20)
    (h : ∀ d s, St w T s₀ env m mus ((d, lstO (xs ++ ys) 0) :: news) s → Q (.ref d) s) : wpAny (model P31 w) A (binaryOp .Add (.ref l) (.ref b)) Q E s := @r_ladd _ _ _ _ _ _ _ _ _ _ _ _ _ _ _ _ _ Z hl hb hsz h
/-- for x, y in a list of pairs -/
theorem r_iterPairs {Q : Flow → Shared → Prop} {elts : List Expr} {x1} {tpos : Pos} {body : List Stmt} {l : Addr} {lo : Obj} {xs : Array Value} (Z : St w T s₀ env m mus news s) (hh : A.handled = none) (hl : s.heap.get? l = some lo) (hlo : IsL lo xs) (hrefs : ∀ (i : Nat) (v : Value), xs[i]? = some v → ∃ a : Addr, v = Value.ref a)
    (K : Nat → (Str → Option Value) → List (Addr × Obj) → List (Addr × Obj) → Prop) (hfix : ∀ i m mus news s, K i m mus news → St w T s₀ env m mus news s → s.heap.get? l = some lo) (hK : K 0 m mus news)
    (turn : ∀ I i m mus news oI v s, i < xs.size → K i m mus news → xs[i]? = some v → St w T s₀ env m ((I, oI) :: mus) news s →
      wpAny (model P31 w) A (assign (.Tuple elts x1 tpos) env v) (fun _ s => wpAny (model P31 w) A (execs body env) (fun f s => match f with
          | .next | .cont => ∃ m' mus' news', St w T s₀ env m' ((I, oI) :: mus') news' s ∧ K (i + 1) m' mus' news'
          | .brk => Q .next s
          | .ret v => Q (.ret v) s) NoE s) NoE s)
    (fin : ∀ m mus news s, K xs.size m mus news → St w T s₀ env m mus news s → Q .next s) :
    wpAny (model P31 w) A (pyIter (.ref l)) (fun it s => codeAny (model P31 w) A (.forLoop (.Tuple elts x1 tpos) it body [] env) (fun r s' => match r with | .ok f => Q f s' | .error e => cameBackBy (model P31 w) A env NoE e s') s) NoE s := by
  refine @wpAny_pyIter_list _ _ _ _ _ _ _ _ (hlo.list hl) ?_
  have hne : l ≠ s.heap.objs.size := Nat.ne_of_lt (Heap.lt_size hl)
  have Z' := Z.pushM { cls := .type "list_iterator", data := .fields #[.ref l, .int 0 0] } iter_mu (t := s.toks)
  have W := Walks.list (prog := P31) (w := w) hh s.heap.objs.size l hne xs
  generalize s.heap.objs.size = I at *
  refine codeAny_forLoop_any (fun j s => ∃ i m mus news oI, j = xs.size - i ∧ i ≤ xs.size ∧ St w T s₀ env m ((I, oI) :: mus) news s ∧ (s.heap.IsListIter I l i ∧ s.heap.IsList l xs) ∧ K i m mus news) (fun j s hI => ?_) xs.size ⟨0, m, mus, news, _, rfl, Nat.zero_le _, Z', ⟨⟨_, Z'.getM (.head _), rfl, rfl⟩, hlo.list (hfix _ _ _ _ _ hK Z'.dropM)⟩, hK⟩
  obtain ⟨i, m, mus, news, oI, rfl, hi, Z, hS, hK⟩ := hI
  rcases Nat.lt_or_eq_of_le hi with hlt | rfl
  · refine W.item i s _ _ hlt hS fun v h' tk hP hS' hkp => ?_
    obtain ⟨⟨o', ho', hc', hd'⟩, _⟩ := id hS'
    have Z1 := Z.turn (t := tk) (fun b o hb e => hkp b o (by simpa using hb) e) ho' (fields_mu (r := []) hc' hd')
    obtain ⟨a, rfl⟩ := hrefs i v hP
    refine @wpAny_letOwnedTupleGo_listiter _ _ _ _ _ _ _ _ _ _ _ _ _ hS'.1 ?_
    refine @wpAny_mono _ _ _ _ _ _ _ _ _ (turn I i m mus news o' _ _ hlt hK hP Z1) (fun _ s1 h => @wpAny_mono _ _ _ _ _ _ _ _ _ h (fun f s2 h => ?_) fun _ _ h => h.elim) fun _ _ h => h.elim
    cases f with
    | next => obtain ⟨m', mus', news', Z2, hK2⟩ := h; exact ⟨_, by omega, i + 1, m', mus', news', o', rfl, hlt, Z2, ⟨⟨o', Z2.getM (.head _), hc', hd'⟩, hlo.list (hfix _ _ _ _ _ hK2 Z2.dropM)⟩, hK2⟩
    | cont => obtain ⟨m', mus', news', Z2, hK2⟩ := h; exact ⟨_, by omega, i + 1, m', mus', news', o', rfl, hlt, Z2, ⟨⟨o', Z2.getM (.head _), hc', hd'⟩, hlo.list (hfix _ _ _ _ _ hK2 Z2.dropM)⟩, hK2⟩
    | brk => exact h
    | ret v => exact h
  · refine W.done s _ _ hS fun h' tk hkp => ?_
    exact @wpAny_execs_nil _ _ _ _ _ _ (fin _ _ _ _ hK (Z.lose (t := tk) fun b o hb e => hkp b o (by simpa using hb) e))
end
end Mine
namespace Mine
open PySem PySem.W PySem.Calls PyProof.Rows PySem.Builtin.Str
theorem any_periods {row : List Int} {p : Nat} (h1 : 1 ≤ p) (h2 : p < row.length) : (natsI (periodsL row)).any (· == (p : Int)) = isPer row p := by
  rw [Bool.eq_iff_iff, List.any_eq_true]
  unfold natsI periodsL
  constructor
  · rintro ⟨x, hx, he⟩
    obtain ⟨k, hk, rfl⟩ := List.mem_map.mp hx
    have hkp : (k : Int) = p := eq_of_beq he
    have hkp : k = p := by lia
    subst hkp
    rcases List.mem_append.mp hk with q | q
    · exact (List.mem_filter.mp q).2
    · have := List.mem_singleton.mp q; lia
  · intro h
    exact ⟨(p : Int), List.mem_map_of_mem (List.mem_append_left _ (List.mem_filter.mpr ⟨List.mem_range'_1.mpr (by omega), h⟩)), by simp⟩
section
variable {w : World} {T : Tops} {s₀ s : Shared} {m : Str → Option Value} {news : List (Addr × Obj)} {A : Around} {Q : Value → Shared → Prop} {rw pl : Addr} {script : List Int} {x : Str} {tx : Tok}
theorem law_D1 (Z : S18 w T s₀ m news s) (room : A.depth + 20 ≤ recursionLimit) (hh : A.handled = none) (B : MC script m rw pl) (msg : m "signs" = some (.str x tx)) (S : Signs x (rowD script)) (hp : PersAt script pl news)
    (next : ∀ m news s, S18 w T s₀ m news s → MC script m rw pl → m "signs" = some (.str x tx) → P18 w A 17 T Q s₀ s) : P18 w A 16 T Q s₀ s := by
  have hrl := rowD_len script
  have hN : (rowD script).length = nOf script := rfl
  have hxn : x.length = nOf script := S.len
  obtain ⟨tc, mcount⟩ := B.count
  refine @wpAny_execs_cons _ _ _ _ _ _ _ _ <| @wpAny_For _ _ _ _ _ _ _ _ _ _ _ ( @c_call _ _ _ _ _ _ _ _ _ _ <| @ldb _ _ _ _ _ _ _ _ _ _ _ _ Z _ rfl ( @c_typ _ _ _ _ _ _ _ _ _ _ ( @a_cons _ _ _ _ _ _ _ _ _ ( @k_int _ _ _ _ _ _ _ _ _ _ _ _ _ _ Z fun t s Z => @a_cons _ _ _ _ _ _ _ _ _ ( @ld _ _ _ _ _ _ _ _ _ _ _ _ Z _ mcount ( @args_nil _ _ _ _ _ _ _ <| r_range2 (a := 1) (b := nOf script) Z fun R v s Z => ?_) (by rfl) (by rfl) (by decide) (by decide)) (by rfl)) (by rfl)) (by rfl) (by rfl)) (by rfl) (by rfl) (by rfl) (by rfl) (by decide)) (by intro _; rfl)
  refine @r_iterRange _ _ _ _ _ _ _ _ _ _ _ _ _ _ _ _ _ _ Z hh (Z.get (.head _)) (by lia) (by lia) (fun i m mus news => mus = [] ∧ MC script m rw pl ∧ m "signs" = some (.str x tx) ∧ PersAt script pl news) ⟨rfl, B, msg, hp.mono fun p hp => .tail _ hp⟩ ?_ (?_) (by intro _ _; rfl)
  · rintro I i m mus news oI t s hi ⟨rfl, B, msg, hp⟩ Z
    obtain ⟨pu, pn, pm, pi⟩ := id hp
    obtain ⟨tc, mcount⟩ := B.count
    refine @wpAny_assign_Name _ _ _ _ _ _ _ _ _ <| @stl _ _ _ _ _ _ _ _ _ _ _ Z _ (fun s Z => ?_) (by rfl) (by rfl) (by rfl)
    refine @wpAny_execs_cons _ _ _ _ _ _ _ _ <| @wpAny_Assign_Name _ _ _ _ _ _ _ _ _ _ ( @Subscript_ _ _ _ _ _ _ _ _ _ <| @ld _ _ _ _ _ _ _ _ _ _ _ _ Z _ msg ( @wpAny_Slice _ _ _ _ _ _ _ _ _ _ <| @wpAny_evalPart_none _ _ _ _ _ _ <| @wpAny_evalPart_some _ _ _ _ _ _ _ <| @wpAny_BinOp _ _ _ _ _ _ _ _ _ _ <| @ld _ _ _ _ _ _ _ _ _ _ _ _ Z _ mcount ( @ld _ _ _ _ _ _ _ _ _ _ _ _ Z _ rfl ( n_sub (a := nOf script) (by lia) Z fun t s Z => @wpAny_evalPart_none _ _ _ _ _ _ <| @sl_upto _ _ _ _ _ _ _ _ _ _ _ _ _ _ _ _ _ Z (by unfold sizeLine; lia) (fun t s Z => ?_) (by with_unfolding_all rfl)) (by rfl) (by rfl) (by decide) (by decide)) (by rfl) (by rfl) (by decide) (by decide)) (by rfl) (by rfl) (by decide) (by decide)) (by rfl)
    rw [show (⟨((tl x).take (nOf script - (1 + i))).toArray⟩ : Str) = tk x (nOf script - (1 + i)) from rfl]
    refine @stl _ _ _ _ _ _ _ _ _ _ _ Z _ (fun s Z => ?_) (by rfl) (by rfl) (by rfl)
    have G := good_piece S (by lia) (show 1 ≤ 1 + i by lia) (show 1 + i < (rowD script).length by lia)
    have hpl : (tk x (nOf script - (1 + i))).length ≤ 10 := by rw [tk_len]; (clear room hi; omega)
    refine @wpAny_execs_cons _ _ _ _ _ _ _ _ <| @wpAny_If _ _ _ _ _ _ _ _ _ _ <| @wpAny_isTrue_Compare1 _ _ _ _ _ _ _ _ _ _ _ ( @c_call _ _ _ _ _ _ _ _ _ _ <| @ldg _ _ _ _ _ _ _ _ _ _ _ _ Z _ rfl ( r_callfn (i := 0) <| @a_cons _ _ _ _ _ _ _ _ _ ( @wpAny_BinOp _ _ _ _ _ _ _ _ _ _ <| @wpAny_BinOp _ _ _ _ _ _ _ _ _ _ <| @ld _ _ _ _ _ _ _ _ _ _ _ _ Z _ rfl ( @k_str _ _ _ _ _ _ _ _ _ _ _ _ _ _ Z fun t s Z => @r_sadd _ _ _ _ _ _ _ _ _ _ _ _ _ _ _ Z (by rw [show Str.length (_ : Str) = 3 from dots_len]; unfold sizeLine; lia) fun t s Z => @ld _ _ _ _ _ _ _ _ _ _ _ _ Z _ rfl ( @r_sadd _ _ _ _ _ _ _ _ _ _ _ _ _ _ _ Z (by rw [Str.length_append, show Str.length (Str.ofString "...") = 3 from dots_len]; unfold sizeLine; lia) fun t s Z => ?_) (by rfl) (by rfl) (by decide) (by decide)) (by rfl) (by rfl) (by decide) (by decide)) (by rfl)) (by rfl) (by rfl) (by rfl) (by decide)) (by with_unfolding_all rfl)
    refine @a_cons _ _ _ _ _ _ _ _ _ ( @ld _ _ _ _ _ _ _ _ _ _ _ _ Z _ msg ( @args_nil _ _ _ _ _ _ _ ⟨(Z.g.fn 0 (by decide)).1, ?_⟩) (by rfl) (by rfl) (by decide) (by decide)) (by rfl)
    refine @s_ell _ _ _ _ _ _ _ _ _ Z.g (by lia) hh G.1.1 (by lia) G.1.2 fun s' lt => ?_
    have Z := Z.later lt
    have hG : ellM (tk x (nOf script - (1 + i)) ++ dots ++ tk x (nOf script - (1 + i))) x = (isPer (rowD script) (1 + i) && decide (nOf script ≤ 2 * (1 + i))) := G.2
    rw [hG]
    refine @BoolOp_and _ _ _ _ _ _ _ _ _ _ <| @wpAny_Compare1 _ _ _ _ _ _ _ _ _ _ ( @ld _ _ _ _ _ _ _ _ _ _ _ _ Z _ rfl ( @ld _ _ _ _ _ _ _ _ _ _ _ _ Z _ B.periods ( @in_list_ints _ _ _ _ _ _ _ _ _ _ _ (isL_lst.list (Z.get pm)) pi <| @wpAny_truthy_bool _ _ _ _ _ _ ?_) (by rfl) (by rfl) (by decide) (by decide)) (by rfl) (by rfl) (by decide) (by decide)) (by with_unfolding_all rfl)
    rw [any_periods (by omega) (by omega)]
    cases hb : isPer (rowD script) (1 + i) with
    | false =>
      rw [if_neg (by decide)]
      refine @isnot_bool _ _ _ _ _ _ _ <| @wpAny_truthy_bool _ _ _ _ _ _ ?_
      rw [if_neg (by simp)]
      exact @wpAny_execs_nil _ _ _ _ _ _ <| @wpAny_execs_nil _ _ _ _ _ _ ⟨_, _, _, Z, rfl, ⟨B.row, B.count, B.way, B.periods, B.period⟩, msg, hp⟩
    | true =>
      rw [if_pos rfl]
      refine @BoolOp_one _ _ _ _ _ _ _ _ _ <| @wpAny_Compare1 _ _ _ _ _ _ _ _ _ _ ( @wpAny_BinOp _ _ _ _ _ _ _ _ _ _ <| @k_int _ _ _ _ _ _ _ _ _ _ _ _ _ _ Z fun t s Z => @ld _ _ _ _ _ _ _ _ _ _ _ _ Z _ rfl ( @r_mul _ _ _ _ _ _ _ _ _ _ _ _ _ _ _ Z (.of_left (by decide)) fun t s Z => @ld _ _ _ _ _ _ _ _ _ _ _ _ Z _ mcount ( @ge_int _ _ _ _ _ _ _ _ _ _ <| @isnot_bool _ _ _ _ _ _ _ <| @wpAny_truthy_bool _ _ _ _ _ _ ?_) (by rfl) (by rfl) (by decide) (by decide)) (by rfl) (by rfl) (by decide) (by decide)) (by with_unfolding_all rfl)
      rw [show decide ((nOf script : Int) ≤ 2 * ((1 + i : Nat) : Int)) = decide (nOf script ≤ 2 * (1 + i)) from decide_eq_decide.mpr (by (clear room hrl hN hi hpl; omega))]
      rw [if_neg (by simp)]
      exact @wpAny_execs_nil _ _ _ _ _ _ <| @wpAny_execs_nil _ _ _ _ _ _ ⟨_, _, _, Z, rfl, ⟨B.row, B.count, B.way, B.periods, B.period⟩, msg, hp⟩
  · rintro m mus news s ⟨rfl, B, msg, hp⟩ Z
    exact next _ _ _ Z B msg
end
end Mine
namespace Mine
open PySem PySem.W PySem.Calls PyProof.Rows PySem.Builtin.Str
/-- the pieces of the signs, cut by the period -/
noncomputable def piecesL (x : Str) (p o lf : Nat) : List Str := List.replicate o (tk x p) ++ if lf = 0 then [] else [dk x (x.length - lf)]
theorem strValues_append (a b : List (Str × Tok)) : strValues (a ++ b) = strValues a ++ strValues b := by unfold strValues; rw [List.map_append]
theorem sum_rep (k a : Nat) : (List.replicate k a).sum = k * a := List.sum_replicate_nat
theorem join_len {ps : List Str} {n k : Nat} (h : ∀ p ∈ ps, p.length ≤ n) (hk : ps.length ≤ k) : (Txt.join dots ps).length ≤ k * (n + 3) := by
  have h1 := StrLaws.join_length_le dots ps
  rw [← StrLaws.glued_eq_join, dots_len] at h1
  have h2 : ∀ ps : List Str, (∀ p ∈ ps, p.length ≤ n) → (ps.map (·.length)).sum ≤ ps.length * n := by
    intro ps
    induction ps with
    | nil => intro _; simp
    | cons a r ih =>
      intro h
      have := ih fun p hp => h p (.tail _ hp)
      have := h a (List.mem_cons_self ..)
      simp only [List.map_cons, List.sum_cons, List.length_cons, Nat.add_mul, Nat.one_mul]; lia
  have h3 := h2 ps h
  have h4 : ps.length * (n + 3) ≤ k * (n + 3) := Nat.mul_le_mul_right _ hk
  rw [Nat.mul_add] at h4
  show (Builtin.Str.glued dots ps).length ≤ _
  (clear hk; lia)
theorem join_sum {ps : List Str} {n k : Nat} (h : ∀ p ∈ ps, p.length ≤ n) (hk : ps.length ≤ k) (hb : k * (n + 3) ≤ 2 ^ 20) : (ps.map (·.length)).sum + ps.length * dots.length ≤ 2 ^ 20 := by
  have h2 : ∀ ps : List Str, (∀ p ∈ ps, p.length ≤ n) → (ps.map (·.length)).sum ≤ ps.length * n := by
    intro ps
    induction ps with
    | nil => intro _; simp
    | cons a r ih =>
      intro h
      have := ih fun p hp => h p (.tail _ hp)
      have := h a (List.mem_cons_self ..)
      simp only [List.map_cons, List.sum_cons, List.length_cons, Nat.add_mul, Nat.one_mul]; omega
  have h3 := h2 ps h
  have h4 : ps.length * (n + 3) ≤ k * (n + 3) := Nat.mul_le_mul_right _ hk
  rw [Nat.mul_add] at h4
  rw [dots_len]
  lia
section
variable {w : World} {T : Tops} {s₀ s : Shared} {m : Str → Option Value} {news : List (Addr × Obj)} {A : Around} {Q : Value → Shared → Prop} {rw pl : Addr} {script : List Int} {x : Str} {tx : Tok}
structure MDs (script : List Int) (m : Str → Option Value) (x : Str) (tx : Tok) (pc : Addr) (over : Str) : Prop where
  period : ∃ t, m "period" = some (.int (minP (rowD script) : Nat) t)
  signs : m "signs" = some (.str x tx)
  pieces : m "pieces" = some (.ref pc)
  over : ∃ t, m "over" = some (.str over t)
theorem law_D2 (Z : S18 w T s₀ m news s) (room : A.depth + 20 ≤ recursionLimit) (hh : A.handled = none) (B : MC script m rw pl) (msg : m "signs" = some (.str x tx)) (S : Signs x (rowD script))
    (next : ∀ m news s pc over o lf L nn, S18 w T s₀ m news s → MDs script m x tx pc over → Good x over false → o * minP (rowD script) + lf = nOf script → lf < minP (rowD script) → 1 ≤ o → (pc, lstO (strValues L).toArray nn) ∈ news → L.map (·.1) = piecesL x (minP (rowD script)) o lf → P18 w A 21 T Q s₀ s) : P18 w A 17 T Q s₀ s := by
  have hrl := rowD_len script
  have hN : (rowD script).length = nOf script := rfl
  have hxn : x.length = nOf script := S.len
  obtain ⟨p1, p2, p3, p4⟩ := minP_spec S.pos
  obtain ⟨tc, mcount⟩ := B.count
  obtain ⟨ty, mway⟩ := B.way
  obtain ⟨tp, mper⟩ := B.period
  generalize hp : minP (rowD script) = p at *
  have hbp : 1 ≤ Builtin.Int.intBits (p : Int) := bits_ge (a := p) (k := 0) (by lia)
  have hbp2 : Builtin.Int.intBits (p : Int) ≤ 4 := bitsNat (by lia)
  have hbn : Builtin.Int.intBits (nOf script : Int) ≤ 4 := bitsNat (by lia)
  refine @wpAny_execs_cons _ _ _ _ _ _ _ _ <| @Assign_Tuple _ _ _ _ _ _ _ _ _ _ _ ( @c_call _ _ _ _ _ _ _ _ _ _ <| @ldg _ _ _ _ _ _ _ _ _ _ _ _ Z _ rfl ( r_callfn (i := 15) <| @a_cons _ _ _ _ _ _ _ _ _ ( @ld _ _ _ _ _ _ _ _ _ _ _ _ Z _ mcount ( @a_cons _ _ _ _ _ _ _ _ _ ( @ld _ _ _ _ _ _ _ _ _ _ _ _ Z _ mper ( @a_cons _ _ _ _ _ _ _ _ _ ( @ld _ _ _ _ _ _ _ _ _ _ _ _ Z _ mway ( @args_nil _ _ _ _ _ _ _ ⟨(Z.g.fn 15 (by decide)).1, ?_⟩) (by rfl) (by rfl) (by decide) (by decide)) (by rfl)) (by rfl) (by rfl) (by decide) (by decide)) (by rfl)) (by rfl) (by rfl) (by decide) (by decide)) (by rfl)) (by rfl) (by rfl) (by rfl) (by decide)) (by rfl) (by rfl)
  refine @s_divided _ _ _ _ _ _ _ _ _ _ _ Z.g (by lia) hh (by lia) (by lia) (by lia) (by lia) fun q r s' d t1 t2 lt fd e1 e2 => ?_
  have Z := Z.join1 lt ⟨e1, nofun, e2⟩
  refine @goal_hide _ fun G hG => ?_
  obtain ⟨f1, f2⟩ := fd
  have f2 : 0 ≤ r ∧ r < p := by (clear room hrl hN hxn hp p2 hbp hbp2 hbn f1; omega)
  obtain ⟨lf, rfl⟩ : ∃ lf : Nat, r = lf := ⟨r.toNat, by (clear room hrl hN hxn hp p1 p2 hbp hbp2 hbn f1; lia)⟩
  have hq0 : 0 < q := by
    refine Int.not_le.mp fun hq => ?_
    have : q * p ≤ 0 := Int.mul_nonpos_of_nonpos_of_nonneg hq (by lia)
    lia
  obtain ⟨o, rfl⟩ : ∃ o : Nat, q = o := ⟨q.toNat, by lia⟩
  have hop : o * p + lf = nOf script := by exact_mod_cast f1
  have ho1 : 1 ≤ o := by lia
  have ho2 : o ≤ 10 := by
    have : o * 1 ≤ o * p := Nat.mul_le_mul_left _ p1
    lia
  have hlf : lf < p := by lia
  have tkl : (tk x p).length = p := by rw [tk_len]; lia
  refine hG ?_
  clear hG
  refine @r_unpack2 _ _ _ _ _ _ _ _ _ _ _ _ _ _ _ _ _ _ _ _ Z hh (Z.get (.head _)) fun s Z => @stl _ _ _ _ _ _ _ _ _ _ _ Z _ (fun s Z => @stl _ _ _ _ _ _ _ _ _ _ _ Z _ (fun s Z => ?_) (by rfl) (by rfl) (by rfl)) (by rfl) (by rfl) (by rfl)
  refine @wpAny_execs_cons _ _ _ _ _ _ _ _ <| @wpAny_Assign_Name _ _ _ _ _ _ _ _ _ _ ( @wpAny_BinOp _ _ _ _ _ _ _ _ _ _ <| @List_ _ _ _ _ _ _ _ _ <| @a_cons _ _ _ _ _ _ _ _ _ ( @Subscript_ _ _ _ _ _ _ _ _ _ <| @ld _ _ _ _ _ _ _ _ _ _ _ _ Z _ msg ( @wpAny_Slice _ _ _ _ _ _ _ _ _ _ <| @wpAny_evalPart_none _ _ _ _ _ _ <| @wpAny_evalPart_some _ _ _ _ _ _ _ <| @ld _ _ _ _ _ _ _ _ _ _ _ _ Z _ mper ( @wpAny_evalPart_none _ _ _ _ _ _ <| @sl_upto _ _ _ _ _ _ _ _ _ _ _ _ _ _ _ _ _ Z (by unfold sizeLine; lia) (fun tu s Z => @args_nil _ _ _ _ _ _ _ <| @r_newlist _ _ _ _ _ _ _ _ _ _ _ _ Z (by simp) fun d2 s Z => @ld _ _ _ _ _ _ _ _ _ _ _ _ Z _ rfl ( @r_repC _ _ _ _ _ _ _ _ _ _ _ _ _ _ _ _ Z (Z.get (.head _)) (by lia) fun pc s Z => @stl _ _ _ _ _ _ _ _ _ _ _ Z _ (fun s Z => ?_) (by rfl) (by rfl) (by rfl)) (by rfl) (by rfl) (by decide) (by decide)) (by with_unfolding_all rfl)) (by rfl) (by rfl) (by decide) (by decide)) (by rfl) (by rfl) (by decide) (by decide)) (by rfl)) (by rfl)
  rw [show (⟨((tl x).take p).toArray⟩ : Str) = tk x p from rfl] at Z
  have hsv : ∀ k, (List.replicate k (Value.str (tk x p) tu)) = strValues (List.replicate k (tk x p, tu)) := fun k => by unfold strValues; rw [List.map_replicate]
  rw [hsv] at Z
  have hov : (strValues (List.replicate o (tk x p, tu))).toArray ++ (List.take 1 (strValues (List.replicate o (tk x p, tu))).toArray.toList).toArray = (strValues (List.replicate (o + 1) (tk x p, tu))).toArray := by
    obtain ⟨o', rfl⟩ : ∃ o', o = o' + 1 := ⟨o - 1, by lia⟩
    rw [← hsv, ← hsv, List.replicate_succ' (n := o' + 1), List.replicate_succ]
    simp
  have hps : ∀ z ∈ List.replicate (o + 1) (tk x p), z.length ≤ 10 := fun z hz => by rw [(List.mem_replicate.mp hz).2, tkl]; lia
  refine @wpAny_execs_cons _ _ _ _ _ _ _ _ <| @wpAny_Assign_Name _ _ _ _ _ _ _ _ _ _ ( @wpAny_BinOp _ _ _ _ _ _ _ _ _ _ <| @MethodCall_ _ _ _ _ _ _ _ _ _ _ _ _ ( @k_str _ _ _ _ _ _ _ _ _ _ _ _ _ _ Z fun t s Z => @PySem.GM.join _ _ _ _ _ _ _ _ <| @c_meth _ _ _ _ _ _ _ _ _ _ _ ( @a_cons _ _ _ _ _ _ _ _ _ ( @wpAny_BinOp _ _ _ _ _ _ _ _ _ _ <| @ld _ _ _ _ _ _ _ _ _ _ _ _ Z _ rfl ( @Subscript_ _ _ _ _ _ _ _ _ _ <| @ld _ _ _ _ _ _ _ _ _ _ _ _ Z _ rfl ( @wpAny_Slice _ _ _ _ _ _ _ _ _ _ <| @wpAny_evalPart_none _ _ _ _ _ _ <| @wpAny_evalPart_some _ _ _ _ _ _ _ <| @k_int _ _ _ _ _ _ _ _ _ _ _ _ _ _ Z fun t s Z => @wpAny_evalPart_none _ _ _ _ _ _ <| ll_upto (b := 1) Z (Z.getM (.head _)) isL_lst (by simp [strValues]; lia) fun d3 s Z => ?_) (by rfl) (by rfl) (by decide) (by decide)) (by rfl) (by rfl) (by decide) (by decide)) (by rfl)) (by rfl) (by rfl)) (by rfl)) (by rfl)
  refine @r_ladd _ _ _ _ _ _ _ _ _ _ _ _ _ _ _ _ _ Z (Z.getM (.head _)) (Z.get (.head _)) (by simp [strValues]; lia) fun d4 s Z => ?_
  rw [hov] at Z
  refine @args_nil _ _ _ _ _ _ _ <| r_join (ps := List.replicate (o + 1) (tk x p)) Z (Z.get (.head _)) (by rw [List.map_replicate]) (join_sum hps (Nat.le_of_eq List.length_replicate) (Nat.le_trans (Nat.mul_le_mul_right _ (show o + 1 ≤ 11 by lia)) (by decide))) fun t s Z => ?_
  have hjl := join_len hps (k := 11) (by rw [List.length_replicate]; omega)
  refine @k_str _ _ _ _ _ _ _ _ _ _ _ _ _ _ Z fun t s Z => @r_sadd _ _ _ _ _ _ _ _ _ _ _ _ _ _ _ Z (by rw [show Str.length (Str.ofString "...") = 3 from dots_len]; unfold sizeLine; show (Txt.join dots (List.replicate (o + 1) (tk x p))).length + 3 ≤ 2 ^ 24; lia) fun t s Z => ?_
  have hover : Good x (Txt.join dots (List.replicate (o + 1) (tk x p)) ++ dots) false := by
    refine good_long (ps := List.replicate (o + 1) (tk x p) ++ [⟨#[]⟩]) ?_ ?_ (fun z hz => ?_) ?_ ?_
    · rw [tl_append, jn_join, tl_dots, jn_snoc (by simp)]; rfl
    · simp only [List.length_append, List.length_replicate, List.length_cons, List.length_nil]; lia
    · rcases List.mem_append.mp hz with hz | hz
      · rw [(List.mem_replicate.mp hz).2]; exact tk_dotless S.dl
      · rw [List.mem_singleton.mp hz]; exact fun hm => by cases hm
    · rw [Str.length_append, dots_len]; lia
    · rw [List.map_append, List.map_replicate, List.sum_append, sum_rep, tkl, Nat.add_mul, Nat.one_mul]
      lia
  generalize hO : Txt.join dots (List.replicate (o + 1) (tk x p)) ++ dots = over at hover
  refine @stl _ _ _ _ _ _ _ _ _ _ _ Z _ (fun s Z => ?_) (by rfl) (by rfl) (by rfl)
  refine @wpAny_execs_cons _ _ _ _ _ _ _ _ <| @wpAny_If _ _ _ _ _ _ _ _ _ _ <| @wpAny_isTrue_Compare1 _ _ _ _ _ _ _ _ _ _ _ ( @ld _ _ _ _ _ _ _ _ _ _ _ _ Z _ rfl ( @k_int _ _ _ _ _ _ _ _ _ _ _ _ _ _ Z fun t s Z => @gt_int _ _ _ _ _ _ _ _ _ _ <| @wpAny_truthy_bool _ _ _ _ _ _ ?_) (by rfl) (by rfl) (by decide) (by decide)) (by with_unfolding_all rfl)
  by_cases hz : lf = 0
  · subst hz
    rw [if_neg (by decide)]
    refine @wpAny_execs_nil _ _ _ _ _ _ ?_
    refine next _ _ _ pc over o 0 (List.replicate o (tk x p, tu)) _ Z.freeze ⟨⟨_, hp ▸ mper⟩, msg, rfl, ⟨_, rfl⟩⟩ hover (by lia) (by lia) ho1 (.head _) ?_
    unfold piecesL
    rw [if_pos rfl, List.append_nil, List.map_replicate]
  · rw [if_pos (by simp; lia)]
    refine @wpAny_execs_cons _ _ _ _ _ _ _ _ <| @wpAny_Expr _ _ _ _ _ _ _ _ ( @MethodCall_ _ _ _ _ _ _ _ _ _ _ _ _ ( @ld _ _ _ _ _ _ _ _ _ _ _ _ Z _ rfl ( @getMethod_list_append _ _ _ _ _ _ _ _ (Z.getM (.head _)) rfl rfl <| @c_meth _ _ _ _ _ _ _ _ _ _ _ ( @a_cons _ _ _ _ _ _ _ _ _ ( @Subscript_ _ _ _ _ _ _ _ _ _ <| @ld _ _ _ _ _ _ _ _ _ _ _ _ Z _ msg ( @wpAny_Slice _ _ _ _ _ _ _ _ _ _ <| @wpAny_evalPart_some _ _ _ _ _ _ _ <| @wpAny_BinOp _ _ _ _ _ _ _ _ _ _ <| @ld _ _ _ _ _ _ _ _ _ _ _ _ Z _ mcount ( @ld _ _ _ _ _ _ _ _ _ _ _ _ Z _ rfl ( n_sub (a := nOf script) (by lia) Z fun t s Z => @wpAny_evalPart_none _ _ _ _ _ _ <| @wpAny_evalPart_none _ _ _ _ _ _ <| @sl_from _ _ _ _ _ _ _ _ _ _ _ _ _ _ _ _ _ Z (by unfold sizeLine; omega) (fun td s Z => @args_nil _ _ _ _ _ _ _ <| @r_append _ _ _ _ _ _ _ _ _ _ _ _ _ _ _ Z (by simp [strValues]; omega) fun nn s Z => @wpAny_execs_nil _ _ _ _ _ _ ?_) (by with_unfolding_all rfl)) (by rfl) (by rfl) (by decide) (by decide)) (by rfl) (by rfl) (by decide) (by decide)) (by rfl) (by rfl) (by decide) (by decide)) (by rfl)) (by rfl) (by rfl)) (by rfl) (by rfl) (by decide) (by decide)) (by rfl)) (by rfl) (by rfl)
    have e : (strValues (List.replicate o (tk x p, tu))).toArray.push (.str ⟨((tl x).drop (nOf script - lf)).toArray⟩ td) = (strValues (List.replicate o (tk x p, tu) ++ [(dk x (nOf script - lf), td)])).toArray := by
      rw [strValues_append, List.push_toArray]; rfl
    rw [e] at Z
    refine next _ _ _ pc over o lf (List.replicate o (tk x p, tu) ++ [(dk x (nOf script - lf), td)]) _ Z.freeze ⟨⟨_, hp ▸ mper⟩, msg, rfl, ⟨_, rfl⟩⟩ hover (by lia) (by lia) ho1 (.head _) ?_
    unfold piecesL
    rw [if_neg hz, List.map_append, List.map_replicate, hxn]; rfl
end
end Mine
namespace Mine
open PySem PySem.W PySem.Calls PyProof.Rows PySem.Builtin.Str
theorem pieces_sum {x : Str} {p o lf : Nat} (h : o * p + lf = x.length) (hlt : lf < p) (ho : 1 ≤ o) : ((piecesL x p o lf).map Str.length).sum = x.length := by
  have hop : p ≤ o * p := Nat.le_mul_of_pos_left p ho
  have tkl : (tk x p).length = p := by rw [tk_len]; lia
  unfold piecesL
  rw [List.map_append, List.map_replicate, List.sum_append, sum_rep, tkl]
  split
  · simp; lia
  · rw [List.map_cons, List.map_nil, dk_len]; simp; omega
theorem pieces_mem {x : Str} {p o lf : Nat} (hd : dotless x) : ∀ z ∈ piecesL x p o lf, dotless z ∧ z.length ≤ x.length := by
  intro z hz
  unfold piecesL at hz
  rcases List.mem_append.mp hz with hz | hz
  · rw [(List.mem_replicate.mp hz).2]; exact ⟨tk_dotless hd, by rw [tk_len]; lia⟩
  · split at hz
    · cases hz
    · rw [List.mem_singleton.mp hz]; exact ⟨dk_dotless hd, by rw [dk_len]; omega⟩
theorem pieces_len {x : Str} {p o lf : Nat} : (piecesL x p o lf).length ≤ o + 1 ∧ o ≤ (piecesL x p o lf).length := by
  unfold piecesL
  rw [List.length_append, List.length_replicate]
  split <;> simp
theorem pieces_pos {x : Str} {p o lf : Nat} (h : o * p + lf = x.length) (hlt : lf < p) (ho : 1 ≤ o) : ∀ z ∈ piecesL x p o lf, 1 ≤ z.length := by
  have hop : p ≤ o * p := Nat.le_mul_of_pos_left p ho
  intro z hz
  unfold piecesL at hz
  rcases List.mem_append.mp hz with hz | hz
  · rw [(List.mem_replicate.mp hz).2, tk_len]; omega
  · split at hz
    · cases hz
    · rw [List.mem_singleton.mp hz, dk_len]; omega
/-- the pieces, and the last of them once more -/
theorem good_more {x : Str} {p o lf : Nat} (hd : dotless x) (hl : x.length ≤ 10) (h : o * p + lf = x.length) (hlt : lf < p) (ho : 1 ≤ o) (ho2 : o ≤ 10) : Good x (Txt.join dots (piecesL x p o lf ++ (piecesL x p o lf).drop ((piecesL x p o lf).length - 1))) false := by
  have hs := pieces_sum h hlt ho
  have hm := pieces_mem (p := p) (o := o) (lf := lf) hd
  have hn := pieces_len (x := x) (p := p) (o := o) (lf := lf)
  have hp := pieces_pos h hlt ho
  generalize piecesL x p o lf = ps at *
  have hdl : (ps.drop (ps.length - 1)).length = 1 := by rw [List.length_drop]; lia
  obtain ⟨z, hz⟩ := List.length_eq_one_iff.mp hdl
  have hzm : z ∈ ps := List.mem_of_mem_drop (by rw [hz]; exact List.mem_singleton.mpr rfl)
  rw [hz]
  have hall : ∀ q ∈ ps ++ [z], dotless q ∧ q.length ≤ 10 := fun q hq => by
    rcases List.mem_append.mp hq with hq | hq
    · have := hm q hq; exact ⟨this.1, by lia⟩
    · rw [List.mem_singleton.mp hq]; have := hm z hzm; exact ⟨this.1, by omega⟩
  refine good_long (jn_join _) (by rw [List.length_append]; show 2 ≤ ps.length + 1; lia) (fun q hq => (hall q hq).1) ?_ ?_
  · have := join_len (ps := ps ++ [z]) (n := 10) (k := 12) (fun q hq => (hall q hq).2) (by rw [List.length_append]; show ps.length + 1 ≤ 12; lia)
    lia
  · rw [List.map_append, List.sum_append, hs]
    have := hp z hzm
    simp; lia
section
variable {w : World} {T : Tops} {s₀ s : Shared} {m : Str → Option Value} {news : List (Addr × Obj)} {A : Around} {Q : Value → Shared → Prop} {pc : Addr} {script : List Int} {x over : Str} {tx : Tok}
/-- the questions asked, with what is due -/
noncomputable def AskedAt (x : Str) (arr : List Value) (news : List (Addr × Obj)) : Prop := ∀ v ∈ arr, ∃ (d : Addr) (W : Str) (t : Tok) (b : Bool), v = Value.ref d ∧ (d, tupO #[.str W t, .bool b]) ∈ news ∧ Good x W b
theorem law_E (Z : S18 w T s₀ m news s) (room : A.depth + 20 ≤ recursionLimit) (hh : A.handled = none) {ask : Addr} {arr : List Value} {n : Nat} (ma : m "asked" = some (.ref ask)) (msg : m "signs" = some (.str x tx)) (hxl : x.length ≤ 10) (hm : (ask, lstO arr.toArray n) ∈ news) (hA : AskedAt x arr news)
    (h : ∀ s', Later w T s₀ s' → Q (.bool true) s') : P18 w A 22 T Q s₀ s := by
  refine @wpAny_execs_cons _ _ _ _ _ _ _ _ <| @wpAny_For _ _ _ _ _ _ _ _ _ _ _ ( @ld _ _ _ _ _ _ _ _ _ _ _ _ Z _ ma ( @r_iterPairs _ _ _ _ _ _ _ _ _ _ _ _ _ _ _ _ _ Z hh (Z.get hm) isL_lst (fun i v hv => ?_) (fun i m mus news => mus = [] ∧ m "signs" = some (.str x tx) ∧ (ask, lstO arr.toArray n) ∈ news ∧ AskedAt x arr news) ?_ ?_ ?_ ?_) (by rfl) (by rfl) (by decide) (by decide)) (by intro _; rfl)
  · obtain ⟨d, _, _, _, e, _⟩ := hA v (List.mem_of_getElem? (by rw [List.getElem?_toArray] at hv; exact hv))
    exact ⟨d, e⟩
  · rintro i m mus news s ⟨rfl, _, hm, _⟩ Z
    exact Z.get hm
  · exact ⟨rfl, msg, hm, hA⟩
  · rintro I i m mus news oI v s hi ⟨rfl, msg, hm, hA⟩ hv Z
    obtain ⟨d, W, t, b, rfl, e, G⟩ := hA v (List.mem_of_getElem? (by rw [List.getElem?_toArray] at hv; exact hv))
    refine @r_unpack2 _ _ _ _ _ _ _ _ _ _ _ _ _ _ _ _ _ _ _ _ Z hh (Z.get e) fun s Z => @stl _ _ _ _ _ _ _ _ _ _ _ Z _ (fun s Z => @stl _ _ _ _ _ _ _ _ _ _ _ Z _ (fun s Z => ?_) (by rfl) (by rfl) (by rfl)) (by rfl) (by rfl) (by rfl)
    refine @wpAny_execs_cons _ _ _ _ _ _ _ _ <| @wpAny_If _ _ _ _ _ _ _ _ _ _ <| @wpAny_isTrue_Compare1 _ _ _ _ _ _ _ _ _ _ _ ( @c_call _ _ _ _ _ _ _ _ _ _ <| @ldg _ _ _ _ _ _ _ _ _ _ _ _ Z _ rfl ( r_callfn (i := 0) <| @a_cons _ _ _ _ _ _ _ _ _ ( @ld _ _ _ _ _ _ _ _ _ _ _ _ Z _ rfl ( @a_cons _ _ _ _ _ _ _ _ _ ( @ld _ _ _ _ _ _ _ _ _ _ _ _ Z _ msg ( @args_nil _ _ _ _ _ _ _ ⟨(Z.g.fn 0 (by decide)).1, ?_⟩) (by rfl) (by rfl) (by decide) (by decide)) (by rfl)) (by rfl) (by rfl) (by decide) (by decide)) (by rfl)) (by rfl) (by rfl) (by rfl) (by decide)) (by with_unfolding_all rfl)
    refine @s_ell _ _ _ _ _ _ _ _ _ Z.g (by lia) hh G.1.1 (by lia) G.1.2 fun s' lt => ?_
    have Z := Z.later lt
    rw [G.2]
    refine @ld _ _ _ _ _ _ _ _ _ _ _ _ Z _ rfl ( @isnot_bool _ _ _ _ _ _ _ <| @wpAny_truthy_bool _ _ _ _ _ _ ?_) (by rfl) (by rfl) (by decide) (by decide)
    rw [if_neg (by simp)]
    exact @wpAny_execs_nil _ _ _ _ _ _ <| @wpAny_execs_nil _ _ _ _ _ _ ⟨_, _, _, Z, rfl, msg, hm, hA⟩
  · rintro m mus news s ⟨rfl, _⟩ Z
    exact @wpAny_execs_cons _ _ _ _ _ _ _ _ <| @wpAny_Return_some _ _ _ _ _ _ _ _ <| @wpAny_Constant_bool _ _ _ _ _ _ _ _ _ <| h _ Z.done
end
end Mine
namespace Mine
open PySem PySem.W PySem.Calls PyProof.Rows PySem.Builtin.Str
theorem dl3 : Str.length (Str.ofString "...") = 3 := by decide
theorem dl1 : Str.length (Str.ofString ".") = 1 := by decide
noncomputable def ik (x : Str) : Str := ⟨((tl x).take (x.length - 1)).toArray⟩
theorem ik_len {x : Str} : (ik x).length = x.length - 1 := by rw [← tl_len]; show ((tl x).take (x.length - 1)).length = _; rw [List.length_take, tl_len]; lia
section
variable {w : World} {T : Tops} {s₀ s : Shared} {env : Env} {m : Str → Option Value} {mus news : List (Addr × Obj)} {A : Around} {E : Value → Shared → Prop} {Q : Value → Shared → Prop}
theorem sl_fromT {value slice : Expr} {x : Str} {t t1 : Tok} {a : Nat} (Z : St w T s₀ env m mus news s) (hsz : x.length ≤ sizeLine)
    (h : ∀ t s, St w T s₀ env m mus news s → Q (.str (dk x a) t) s)
    (hs : subscripted slice false (.str x t) (.ref s.heap.objs.size) = operate [.ref s.heap.objs.size, .str x t] (getItem (.str x t) (.ref s.heap.objs.size)) := by with_unfolding_all rfl) :
    wpAny (model P31 w) A (subscriptTail value slice (.str x t) (.ref s.heap.objs.size)) Q E { s with heap := s.heap.push (sliceO (.int (a : Int) t1) .none .none) } := @sl_from _ _ _ _ _ _ _ _ _ _ _ _ _ _ _ _ _ Z hsz h hs
theorem sl_uptoT {value slice : Expr} {x : Str} {t t1 : Tok} {b : Nat} (Z : St w T s₀ env m mus news s) (hsz : x.length ≤ sizeLine)
    (h : ∀ t s, St w T s₀ env m mus news s → Q (.str (tk x b) t) s)
    (hs : subscripted slice false (.str x t) (.ref s.heap.objs.size) = operate [.ref s.heap.objs.size, .str x t] (getItem (.str x t) (.ref s.heap.objs.size)) := by with_unfolding_all rfl) :
    wpAny (model P31 w) A (subscriptTail value slice (.str x t) (.ref s.heap.objs.size)) Q E { s with heap := s.heap.push (sliceO .none (.int (b : Int) t1) .none) } := @sl_upto _ _ _ _ _ _ _ _ _ _ _ _ _ _ _ _ _ Z hsz h hs
theorem sl_init {value slice : Expr} {x : Str} {t t1 : Tok} (Z : St w T s₀ env m mus news s) (hsz : x.length ≤ sizeLine)
    (h : ∀ t s, St w T s₀ env m mus news s → Q (.str (ik x) t) s)
    (hs : subscripted slice false (.str x t) (.ref s.heap.objs.size) = operate [.ref s.heap.objs.size, .str x t] (getItem (.str x t) (.ref s.heap.objs.size)) := by with_unfolding_all rfl) :
    wpAny (model P31 w) A (subscriptTail value slice (.str x t) (.ref s.heap.objs.size)) Q E { s with heap := s.heap.push (sliceO .none (.int (-1) t1) .none) } :=
  sl_str (l := none) (u := some (-1, t1)) Z hsz (fun t s Z => by
    have e : cutS x ((none : Option (Int × Tok)).map (·.1)) ((some ((-1 : Int), t1)).map (·.1)) = ik x := by
      show (⟨(cut x.cps.toList none (some (-1))).toArray⟩ : Str) = ⟨((tl x).take (x.length - 1)).toArray⟩
      have : cut x.cps.toList none (some (-1)) = (tl x).take (x.length - 1) := by
        unfold cut
        rw [show kms_lo none x.cps.toList.length = 0 from rfl, show kms_hi (some (-1)) x.cps.toList.length = x.cps.toList.length - 1 from rfl, List.drop_zero, Nat.sub_zero, show x.cps.toList.length = x.length by simp [Str.length]]
      rw [this]
    rw [e]; exact h t s Z) hs
end
theorem cut_last {L : List (Str × Tok)} : cut (strValues L).toArray.toList (some (-1)) none = strValues (L.drop (L.length - 1)) := by
  have hl : (strValues L).length = L.length := by unfold strValues; rw [List.length_map]
  unfold cut
  rw [show kms_lo (some (-1)) (strValues L).toArray.toList.length = (strValues L).toArray.toList.length - 1 from rfl, show kms_hi none (strValues L).toArray.toList.length = (strValues L).toArray.toList.length from rfl]
  show ((strValues L).drop ((strValues L).length - 1)).take ((strValues L).length - ((strValues L).length - 1)) = _
  rw [List.take_of_length_le (by rw [List.length_drop]; lia), hl]
  unfold strValues
  rw [List.map_drop]
section
variable {w : World} {T : Tops} {s₀ s : Shared} {m : Str → Option Value} {news : List (Addr × Obj)} {A : Around} {Q : Value → Shared → Prop} {pc : Addr} {script : List Int} {x over : Str} {tx : Tok}
theorem law_D3 {o lf nn : Nat} {L : List (Str × Tok)} (Z : S18 w T s₀ m news s) (room : A.depth + 20 ≤ recursionLimit) (hh : A.handled = none) (B : MDs script m x tx pc over) (S : Signs x (rowD script)) (gover : Good x over false)
    (hop : o * minP (rowD script) + lf = nOf script) (hlf : lf < minP (rowD script)) (ho : 1 ≤ o) (hpc : (pc, lstO (strValues L).toArray nn) ∈ news) (hL : L.map (·.1) = piecesL x (minP (rowD script)) o lf)
    (h : ∀ s', Later w T s₀ s' → Q (.bool true) s') : P18 w A 21 T Q s₀ s := by
  have hrl := rowD_len script
  have hN : (rowD script).length = nOf script := rfl
  have hxn : x.length = nOf script := S.len
  have hx10 : x.length ≤ 10 := by (clear room hop hlf ho; lia)
  have hxs : x.length ≤ sizeLine := by unfold sizeLine; (clear room hop hlf ho hx10; lia)
  obtain ⟨p1, p2, p3, p4⟩ := minP_spec S.pos
  obtain ⟨tp, mper⟩ := B.period
  obtain ⟨msg, mpc, ⟨tov, mover⟩⟩ := (⟨B.signs, B.pieces, B.over⟩ : _ ∧ _ ∧ _)
  have ho2 : o ≤ 10 := by
    have : o * 1 ≤ o * minP (rowD script) := Nat.mul_le_mul_left _ p1
    lia
  have hop' : o * minP (rowD script) + lf = x.length := by lia
  have hLl : L.length = (piecesL x (minP (rowD script)) o lf).length := by rw [← hL, List.length_map]
  have hpl := pieces_len (x := x) (p := minP (rowD script)) (o := o) (lf := lf)
  have hpm := pieces_mem (p := minP (rowD script)) (o := o) (lf := lf) S.dl
  have hsl : (strValues L).length = L.length := by unfold strValues; rw [List.length_map]
  -- the two joins
  have g2 : Good x (Txt.join dots (piecesL x (minP (rowD script)) o lf)) true := by
    refine good_cut (ps := piecesL x (minP (rowD script)) o lf) S.dl (S.per.mpr p3) p1 hop' hlf ho rfl (jn_join _) ?_
    have := join_len (ps := piecesL x (minP (rowD script)) o lf) (n := 10) (k := 11) (fun z hz => by have := (hpm z hz).2; (clear room hop hlf ho hx10 hxs p1 p2 ho2 hop' hLl hpl hsl; lia)) (by lia)
    lia
  have g3 := good_more (x := x) S.dl hx10 hop' hlf ho ho2
  have s2 : ((piecesL x (minP (rowD script)) o lf).map (·.length)).sum + (piecesL x (minP (rowD script)) o lf).length * dots.length ≤ 2 ^ 20 :=
    join_sum (n := 10) (k := 11) (fun z hz => by have := (hpm z hz).2; omega) (by omega) (by decide)
  have s3 : ((piecesL x (minP (rowD script)) o lf ++ (piecesL x (minP (rowD script)) o lf).drop ((piecesL x (minP (rowD script)) o lf).length - 1)).map (·.length)).sum + (piecesL x (minP (rowD script)) o lf ++ (piecesL x (minP (rowD script)) o lf).drop ((piecesL x (minP (rowD script)) o lf).length - 1)).length * dots.length ≤ 2 ^ 20 :=
    join_sum (n := 10) (k := 22) (fun z hz => by
      rcases List.mem_append.mp hz with hz | hz
      · have := (hpm z hz).2; omega
      · have := (hpm z (List.mem_of_mem_drop hz)).2; omega) (by rw [List.length_append, List.length_drop]; lia) (by decide)
  have hL3 : (L ++ L.drop (L.length - 1)).map (·.1) = piecesL x (minP (rowD script)) o lf ++ (piecesL x (minP (rowD script)) o lf).drop ((piecesL x (minP (rowD script)) o lf).length - 1) := by
    rw [List.map_append, List.map_drop, hL, hLl]
  generalize piecesL x (minP (rowD script)) o lf = ps at *
  have b1 : (((minP (rowD script) : Nat) : Int) == 1) = decide (minP (rowD script) = 1) := by
    rw [Bool.eq_iff_iff, beq_iff_eq, decide_eq_true_eq]; lia
  refine @wpAny_execs_cons _ _ _ _ _ _ _ _ <| @wpAny_Assign_Name _ _ _ _ _ _ _ _ _ _ ( @List_ _ _ _ _ _ _ _ _ ?_) (by rfl)
  refine @a_cons _ _ _ _ _ _ _ _ _ ( @Tuple_ _ _ _ _ _ _ _ _ _ <| @a_cons _ _ _ _ _ _ _ _ _ ( @ld _ _ _ _ _ _ _ _ _ _ _ _ Z _ mover ( @a_cons _ _ _ _ _ _ _ _ _ ( @wpAny_Constant_bool _ _ _ _ _ _ _ _ _ <| @args_nil _ _ _ _ _ _ _ <| @r_tuple2 _ _ _ _ _ _ _ _ _ _ _ _ _ Z fun d1 s Z => ?_) (by rfl)) (by rfl) (by rfl) (by decide) (by decide)) (by rfl)) (by rfl)
  refine @St.withS _ _ _ _ _ _ _ _ _ Z fun N1 f1 Z => ?_
  have hpc := f1 _ (.tail _ hpc)
  refine @wp_hide _ _ _ _ _ _ _ fun R1 hR1 => ?_
  refine @a_cons _ _ _ _ _ _ _ _ _ ( @Tuple_ _ _ _ _ _ _ _ _ _ <| @a_cons _ _ _ _ _ _ _ _ _ ( @MethodCall_ _ _ _ _ _ _ _ _ _ _ _ _ ( @k_str _ _ _ _ _ _ _ _ _ _ _ _ _ _ Z fun t s Z => @PySem.GM.join _ _ _ _ _ _ _ _ <| @c_meth _ _ _ _ _ _ _ _ _ _ _ ( @a_cons _ _ _ _ _ _ _ _ _ ( @ld _ _ _ _ _ _ _ _ _ _ _ _ Z _ mpc ( @args_nil _ _ _ _ _ _ _ <| r_join (ps := ps) Z (Z.get hpc) hL s2 fun t2 s Z => @a_cons _ _ _ _ _ _ _ _ _ ( @wpAny_Constant_bool _ _ _ _ _ _ _ _ _ <| @args_nil _ _ _ _ _ _ _ <| @r_tuple2 _ _ _ _ _ _ _ _ _ _ _ _ _ Z fun d2 s Z => ?_) (by rfl)) (by rfl) (by rfl) (by decide) (by decide)) (by rfl)) (by rfl) (by rfl)) (by rfl)) (by rfl)) (by rfl)
  refine @St.withS _ _ _ _ _ _ _ _ _ Z fun N2 f2 Z => ?_
  have hpc := f2 _ (.tail _ hpc)
  refine @wp_hide _ _ _ _ _ _ _ fun R2 hR2 => ?_
  refine @a_cons _ _ _ _ _ _ _ _ _ ( @Tuple_ _ _ _ _ _ _ _ _ _ <| @a_cons _ _ _ _ _ _ _ _ _ ( @MethodCall_ _ _ _ _ _ _ _ _ _ _ _ _ ( @k_str _ _ _ _ _ _ _ _ _ _ _ _ _ _ Z fun t s Z => @PySem.GM.join _ _ _ _ _ _ _ _ <| @c_meth _ _ _ _ _ _ _ _ _ _ _ ( @a_cons _ _ _ _ _ _ _ _ _ ( @wpAny_BinOp _ _ _ _ _ _ _ _ _ _ <| @ld _ _ _ _ _ _ _ _ _ _ _ _ Z _ mpc ( @Subscript_ _ _ _ _ _ _ _ _ _ <| @ld _ _ _ _ _ _ _ _ _ _ _ _ Z _ mpc ( @wpAny_Slice _ _ _ _ _ _ _ _ _ _ <| @wpAny_evalPart_some _ _ _ _ _ _ _ <| eval_lit (i := -1) rfl Z fun t s Z => @wpAny_evalPart_none _ _ _ _ _ _ <| @wpAny_evalPart_none _ _ _ _ _ _ <| @sl_list _ _ _ _ _ _ _ _ _ _ _ _ _ _ _ _ _ _ _ _ Z (Z.get hpc) isL_lst (.int _ _) .none (by simp [hsl]; lia) (fun e1 s Z => ?_) (by with_unfolding_all rfl)) (by rfl) (by rfl) (by decide) (by decide)) (by rfl) (by rfl) (by decide) (by decide)) (by rfl)) (by rfl) (by rfl)) (by rfl)) (by rfl)) (by rfl)
  rw [cut_last] at Z
  have hdl : (strValues (L.drop (L.length - 1))).length ≤ L.length := by unfold strValues; rw [List.length_map, List.length_drop]; lia
  refine @r_ladd _ _ _ _ _ _ _ _ _ _ _ _ _ _ _ _ _ Z (Z.get (.tail _ hpc)) (Z.get (.head _)) (by simp only [List.size_toArray]; lia) fun e2 s Z => ?_
  rw [show (strValues L).toArray ++ (strValues (L.drop (L.length - 1))).toArray = (strValues (L ++ L.drop (L.length - 1))).toArray by rw [strValues_append]; simp] at Z
  refine @args_nil _ _ _ _ _ _ _ <| @r_join _ _ _ _ _ _ _ _ _ _ _ _ _ _ _ _ _ Z (Z.get (.head _)) hL3 s3 fun t3 s Z => @a_cons _ _ _ _ _ _ _ _ _ ( @wpAny_Constant_bool _ _ _ _ _ _ _ _ _ <| @args_nil _ _ _ _ _ _ _ <| @r_tuple2 _ _ _ _ _ _ _ _ _ _ _ _ _ Z fun d3 s Z => ?_) (by rfl)
  refine @St.withS _ _ _ _ _ _ _ _ _ Z fun N3 f3 Z => ?_
  refine @wp_hide _ _ _ _ _ _ _ fun R3 hR3 => ?_
  -- the four that are cut by hand
  refine @a_cons _ _ _ _ _ _ _ _ _ ( @Tuple_ _ _ _ _ _ _ _ _ _ <| @a_cons _ _ _ _ _ _ _ _ _ ( @wpAny_BinOp _ _ _ _ _ _ _ _ _ _ <| @wpAny_BinOp _ _ _ _ _ _ _ _ _ _ <| @wpAny_BinOp _ _ _ _ _ _ _ _ _ _ <| @wpAny_BinOp _ _ _ _ _ _ _ _ _ _ <| @Subscript_ _ _ _ _ _ _ _ _ _ <| @ld _ _ _ _ _ _ _ _ _ _ _ _ Z _ msg ( @wpAny_Slice _ _ _ _ _ _ _ _ _ _ <| @wpAny_evalPart_none _ _ _ _ _ _ <| @wpAny_evalPart_some _ _ _ _ _ _ _ <| @k_int _ _ _ _ _ _ _ _ _ _ _ _ _ _ Z fun t s Z => @wpAny_evalPart_none _ _ _ _ _ _ <| sl_uptoT (b := 1) Z hxs fun t s Z => ?_) (by rfl) (by rfl) (by decide) (by decide)) (by rfl)) (by rfl)
  refine @k_str _ _ _ _ _ _ _ _ _ _ _ _ _ _ Z fun t s Z => @r_sadd _ _ _ _ _ _ _ _ _ _ _ _ _ _ _ Z (by simp only [Str.length_append, tk_len, dk_len, ik_len, dl3, dl1]; unfold sizeLine; lia) fun t s Z => @Subscript_ _ _ _ _ _ _ _ _ _ <| @ld _ _ _ _ _ _ _ _ _ _ _ _ Z _ msg ( @wpAny_Slice _ _ _ _ _ _ _ _ _ _ <| @wpAny_evalPart_some _ _ _ _ _ _ _ <| @k_int _ _ _ _ _ _ _ _ _ _ _ _ _ _ Z fun t s Z => @wpAny_evalPart_none _ _ _ _ _ _ <| @wpAny_evalPart_none _ _ _ _ _ _ <| sl_fromT (a := 1) Z hxs fun t s Z => ?_) (by rfl) (by rfl) (by decide) (by decide)
  refine @r_sadd _ _ _ _ _ _ _ _ _ _ _ _ _ _ _ Z (by simp only [Str.length_append, tk_len, dk_len, ik_len, dl3, dl1]; unfold sizeLine; lia) fun t s Z => @k_str _ _ _ _ _ _ _ _ _ _ _ _ _ _ Z fun t s Z => @r_sadd _ _ _ _ _ _ _ _ _ _ _ _ _ _ _ Z (by simp only [Str.length_append, tk_len, dk_len, ik_len, dl3, dl1]; unfold sizeLine; lia) fun t s Z => @Subscript_ _ _ _ _ _ _ _ _ _ <| @ld _ _ _ _ _ _ _ _ _ _ _ _ Z _ msg ( @wpAny_Slice _ _ _ _ _ _ _ _ _ _ <| @wpAny_evalPart_some _ _ _ _ _ _ _ <| @k_int _ _ _ _ _ _ _ _ _ _ _ _ _ _ Z fun t s Z => @wpAny_evalPart_none _ _ _ _ _ _ <| @wpAny_evalPart_none _ _ _ _ _ _ <| sl_fromT (a := 2) Z hxs fun t s Z => ?_) (by rfl) (by rfl) (by decide) (by decide)
  refine @r_sadd _ _ _ _ _ _ _ _ _ _ _ _ _ _ _ Z (by simp only [Str.length_append, tk_len, dk_len, ik_len, dl3, dl1]; unfold sizeLine; lia) fun t4 s Z => @a_cons _ _ _ _ _ _ _ _ _ ( @wpAny_Constant_bool _ _ _ _ _ _ _ _ _ <| @args_nil _ _ _ _ _ _ _ <| @r_tuple2 _ _ _ _ _ _ _ _ _ _ _ _ _ Z fun d4 s Z => ?_) (by rfl)
  refine @St.withS _ _ _ _ _ _ _ _ _ Z fun N4 f4 Z => ?_
  refine @wp_hide _ _ _ _ _ _ _ fun R4 hR4 => ?_
  refine @a_cons _ _ _ _ _ _ _ _ _ ( @Tuple_ _ _ _ _ _ _ _ _ _ <| @a_cons _ _ _ _ _ _ _ _ _ ( @wpAny_BinOp _ _ _ _ _ _ _ _ _ _ <| @Subscript_ _ _ _ _ _ _ _ _ _ <| @ld _ _ _ _ _ _ _ _ _ _ _ _ Z _ msg ( @wpAny_Slice _ _ _ _ _ _ _ _ _ _ <| @wpAny_evalPart_some _ _ _ _ _ _ _ <| @k_int _ _ _ _ _ _ _ _ _ _ _ _ _ _ Z fun t s Z => @wpAny_evalPart_none _ _ _ _ _ _ <| @wpAny_evalPart_none _ _ _ _ _ _ <| sl_fromT (a := 1) Z hxs fun t s Z => ?_) (by rfl) (by rfl) (by decide) (by decide)) (by rfl)) (by rfl)
  refine @k_str _ _ _ _ _ _ _ _ _ _ _ _ _ _ Z fun t s Z => @r_sadd _ _ _ _ _ _ _ _ _ _ _ _ _ _ _ Z (by simp only [Str.length_append, tk_len, dk_len, ik_len, dl3, dl1]; unfold sizeLine; lia) fun t5 s Z => @a_cons _ _ _ _ _ _ _ _ _ ( @wpAny_Compare1 _ _ _ _ _ _ _ _ _ _ ( @ld _ _ _ _ _ _ _ _ _ _ _ _ Z _ mper ( @k_int _ _ _ _ _ _ _ _ _ _ _ _ _ _ Z fun t s Z => @eq_int _ _ _ _ _ _ _ _ _ _ <| @args_nil _ _ _ _ _ _ _ <| @r_tuple2 _ _ _ _ _ _ _ _ _ _ _ _ _ Z fun d5 s Z => ?_) (by rfl) (by rfl) (by decide) (by decide)) (by with_unfolding_all rfl)) (by rfl)
  rw [b1] at Z
  refine @St.withS _ _ _ _ _ _ _ _ _ Z fun N5 f5 Z => ?_
  refine @wp_hide _ _ _ _ _ _ _ fun R5 hR5 => ?_
  refine @a_cons _ _ _ _ _ _ _ _ _ ( @Tuple_ _ _ _ _ _ _ _ _ _ <| @a_cons _ _ _ _ _ _ _ _ _ ( @wpAny_BinOp _ _ _ _ _ _ _ _ _ _ <| @k_str _ _ _ _ _ _ _ _ _ _ _ _ _ _ Z fun t s Z => @Subscript_ _ _ _ _ _ _ _ _ _ <| @ld _ _ _ _ _ _ _ _ _ _ _ _ Z _ msg ( @wpAny_Slice _ _ _ _ _ _ _ _ _ _ <| @wpAny_evalPart_none _ _ _ _ _ _ <| @wpAny_evalPart_some _ _ _ _ _ _ _ <| eval_lit (i := -1) rfl Z fun t s Z => @wpAny_evalPart_none _ _ _ _ _ _ <| @sl_init _ _ _ _ _ _ _ _ _ _ _ _ _ _ _ _ Z hxs (fun t s Z => ?_) (by with_unfolding_all rfl)) (by rfl) (by rfl) (by decide) (by decide)) (by rfl)) (by rfl)
  refine @r_sadd _ _ _ _ _ _ _ _ _ _ _ _ _ _ _ Z (by simp only [Str.length_append, tk_len, dk_len, ik_len, dl3, dl1]; unfold sizeLine; lia) fun t6 s Z => @a_cons _ _ _ _ _ _ _ _ _ ( @wpAny_Compare1 _ _ _ _ _ _ _ _ _ _ ( @ld _ _ _ _ _ _ _ _ _ _ _ _ Z _ mper ( @k_int _ _ _ _ _ _ _ _ _ _ _ _ _ _ Z fun t s Z => @eq_int _ _ _ _ _ _ _ _ _ _ <| @args_nil _ _ _ _ _ _ _ <| @r_tuple2 _ _ _ _ _ _ _ _ _ _ _ _ _ Z fun d6 s Z => ?_) (by rfl) (by rfl) (by decide) (by decide)) (by with_unfolding_all rfl)) (by rfl)
  rw [b1] at Z
  refine @St.withS _ _ _ _ _ _ _ _ _ Z fun N6 f6 Z => ?_
  refine @wp_hide _ _ _ _ _ _ _ fun R6 hR6 => ?_
  refine @a_cons _ _ _ _ _ _ _ _ _ ( @Tuple_ _ _ _ _ _ _ _ _ _ <| @a_cons _ _ _ _ _ _ _ _ _ ( @Subscript_ _ _ _ _ _ _ _ _ _ <| @ld _ _ _ _ _ _ _ _ _ _ _ _ Z _ msg ( @wpAny_Slice _ _ _ _ _ _ _ _ _ _ <| @wpAny_evalPart_some _ _ _ _ _ _ _ <| @k_int _ _ _ _ _ _ _ _ _ _ _ _ _ _ Z fun t s Z => @wpAny_evalPart_none _ _ _ _ _ _ <| @wpAny_evalPart_none _ _ _ _ _ _ <| sl_fromT (a := 1) Z hxs fun t7 s Z => @a_cons _ _ _ _ _ _ _ _ _ ( @wpAny_Constant_bool _ _ _ _ _ _ _ _ _ <| @args_nil _ _ _ _ _ _ _ <| @r_tuple2 _ _ _ _ _ _ _ _ _ _ _ _ _ Z fun d7 s Z => ?_) (by rfl)) (by rfl) (by rfl) (by decide) (by decide)) (by rfl)) (by rfl)
  refine @St.withS _ _ _ _ _ _ _ _ _ Z fun N7 f7 Z => ?_
  refine @wp_hide _ _ _ _ _ _ _ fun R7 hR7 => ?_
  refine @a_cons _ _ _ _ _ _ _ _ _ ( @Tuple_ _ _ _ _ _ _ _ _ _ <| @a_cons _ _ _ _ _ _ _ _ _ ( @Subscript_ _ _ _ _ _ _ _ _ _ <| @ld _ _ _ _ _ _ _ _ _ _ _ _ Z _ msg ( @wpAny_Slice _ _ _ _ _ _ _ _ _ _ <| @wpAny_evalPart_none _ _ _ _ _ _ <| @wpAny_evalPart_some _ _ _ _ _ _ _ <| eval_lit (i := -1) rfl Z fun t s Z => @wpAny_evalPart_none _ _ _ _ _ _ <| @sl_init _ _ _ _ _ _ _ _ _ _ _ _ _ _ _ _ Z hxs (fun t8 s Z => @a_cons _ _ _ _ _ _ _ _ _ ( @wpAny_Constant_bool _ _ _ _ _ _ _ _ _ <| @args_nil _ _ _ _ _ _ _ <| @r_tuple2 _ _ _ _ _ _ _ _ _ _ _ _ _ Z fun d8 s Z => ?_) (by rfl)) (by with_unfolding_all rfl)) (by rfl) (by rfl) (by decide) (by decide)) (by rfl)) (by rfl)
  refine @St.withS _ _ _ _ _ _ _ _ _ Z fun N8 f8 Z => ?_
  refine @wp_hide _ _ _ _ _ _ _ fun R8 hR8 => ?_
  refine @a_cons _ _ _ _ _ _ _ _ _ ( @Tuple_ _ _ _ _ _ _ _ _ _ <| @a_cons _ _ _ _ _ _ _ _ _ ( @wpAny_BinOp _ _ _ _ _ _ _ _ _ _ <| @Subscript_ _ _ _ _ _ _ _ _ _ <| @ld _ _ _ _ _ _ _ _ _ _ _ _ Z _ msg ( @wpAny_Slice _ _ _ _ _ _ _ _ _ _ <| @wpAny_evalPart_some _ _ _ _ _ _ _ <| @k_int _ _ _ _ _ _ _ _ _ _ _ _ _ _ Z fun t s Z => @wpAny_evalPart_none _ _ _ _ _ _ <| @wpAny_evalPart_none _ _ _ _ _ _ <| sl_fromT (a := 1) Z hxs fun t s Z => ?_) (by rfl) (by rfl) (by decide) (by decide)) (by rfl)) (by rfl)
  refine @Subscript_ _ _ _ _ _ _ _ _ _ <| @ld _ _ _ _ _ _ _ _ _ _ _ _ Z _ msg ( @wpAny_Slice _ _ _ _ _ _ _ _ _ _ <| @wpAny_evalPart_none _ _ _ _ _ _ <| @wpAny_evalPart_some _ _ _ _ _ _ _ <| @k_int _ _ _ _ _ _ _ _ _ _ _ _ _ _ Z fun t s Z => @wpAny_evalPart_none _ _ _ _ _ _ <| sl_uptoT (b := 1) Z hxs fun t s Z => ?_) (by rfl) (by rfl) (by decide) (by decide)
  refine @r_sadd _ _ _ _ _ _ _ _ _ _ _ _ _ _ _ Z (by simp only [Str.length_append, tk_len, dk_len, ik_len, dl3, dl1]; unfold sizeLine; lia) fun t9 s Z => @a_cons _ _ _ _ _ _ _ _ _ ( @wpAny_Compare1 _ _ _ _ _ _ _ _ _ _ ( @ld _ _ _ _ _ _ _ _ _ _ _ _ Z _ mper ( @k_int _ _ _ _ _ _ _ _ _ _ _ _ _ _ Z fun t s Z => @eq_int _ _ _ _ _ _ _ _ _ _ <| @args_nil _ _ _ _ _ _ _ <| @r_tuple2 _ _ _ _ _ _ _ _ _ _ _ _ _ Z fun d9 s Z => ?_) (by rfl) (by rfl) (by decide) (by decide)) (by with_unfolding_all rfl)) (by rfl)
  rw [b1] at Z
  refine @St.withS _ _ _ _ _ _ _ _ _ Z fun N9 f9 Z => ?_
  refine @wp_hide _ _ _ _ _ _ _ fun R9 hR9 => ?_
  refine @a_cons _ _ _ _ _ _ _ _ _ ( @Tuple_ _ _ _ _ _ _ _ _ _ <| @a_cons _ _ _ _ _ _ _ _ _ ( @wpAny_BinOp _ _ _ _ _ _ _ _ _ _ <| @wpAny_BinOp _ _ _ _ _ _ _ _ _ _ <| @Subscript_ _ _ _ _ _ _ _ _ _ <| @ld _ _ _ _ _ _ _ _ _ _ _ _ Z _ msg ( @wpAny_Slice _ _ _ _ _ _ _ _ _ _ <| @wpAny_evalPart_none _ _ _ _ _ _ <| @wpAny_evalPart_some _ _ _ _ _ _ _ <| @k_int _ _ _ _ _ _ _ _ _ _ _ _ _ _ Z fun t s Z => @wpAny_evalPart_none _ _ _ _ _ _ <| sl_uptoT (b := 1) Z hxs fun t s Z => ?_) (by rfl) (by rfl) (by decide) (by decide)) (by rfl)) (by rfl)
  refine @k_str _ _ _ _ _ _ _ _ _ _ _ _ _ _ Z fun t s Z => @r_sadd _ _ _ _ _ _ _ _ _ _ _ _ _ _ _ Z (by simp only [Str.length_append, tk_len, dk_len, ik_len, dl3, dl1]; unfold sizeLine; lia) fun t s Z => @Subscript_ _ _ _ _ _ _ _ _ _ <| @ld _ _ _ _ _ _ _ _ _ _ _ _ Z _ msg ( @wpAny_Slice _ _ _ _ _ _ _ _ _ _ <| @wpAny_evalPart_some _ _ _ _ _ _ _ <| @k_int _ _ _ _ _ _ _ _ _ _ _ _ _ _ Z fun t s Z => @wpAny_evalPart_none _ _ _ _ _ _ <| @wpAny_evalPart_none _ _ _ _ _ _ <| sl_fromT (a := 2) Z hxs fun t s Z => ?_) (by rfl) (by rfl) (by decide) (by decide)
  refine @r_sadd _ _ _ _ _ _ _ _ _ _ _ _ _ _ _ Z (by simp only [Str.length_append, tk_len, dk_len, ik_len, dl3, dl1]; unfold sizeLine; lia) fun t10 s Z => @a_cons _ _ _ _ _ _ _ _ _ ( @wpAny_Constant_bool _ _ _ _ _ _ _ _ _ <| @args_nil _ _ _ _ _ _ _ <| @r_tuple2 _ _ _ _ _ _ _ _ _ _ _ _ _ Z fun d10 s Z => @args_nil _ _ _ _ _ _ _ <| hR9 _ _ <| hR8 _ _ <| hR7 _ _ <| hR6 _ _ <| hR5 _ _ <| hR4 _ _ <| hR3 _ _ <| hR2 _ _ <| hR1 _ _ <| @r_newlist _ _ _ _ _ _ _ _ _ _ _ _ Z (by simp) fun ask s Z => @stl _ _ _ _ _ _ _ _ _ _ _ Z _ (fun s Z => ?_) (by rfl) (by rfl) (by rfl)) (by rfl)
  have G4 : Good x (tk x 1 ++ dots ++ dk x 1 ++ dots ++ dk x 2) false := by
    refine good_long (ps := [tk x 1, dk x 1, dk x 2]) ?_ (by show 2 ≤ 3; decide) (fun z hz => ?_) (by rw [Str.length_append, Str.length_append, Str.length_append, Str.length_append, tk_len, dk_len, dk_len, dots_len]; omega) ?_
    · rw [tl_append, tl_append, tl_append, tl_append, tl_dots]; simp [jn]
    · simp only [List.mem_cons, List.not_mem_nil, or_false] at hz
      rcases hz with rfl | rfl | rfl
      · exact tk_dotless S.dl
      · exact dk_dotless S.dl
      · exact dk_dotless S.dl
    · simp only [List.map_cons, List.map_nil, List.sum_cons, List.sum_nil, tk_len, dk_len]; lia
  have G8 : Good x (ik x) false := good_short (fun hm => S.dl (List.mem_of_mem_take hm)) (by rw [ik_len]; omega) (by rw [ik_len]; omega)
  have G7 : Good x (dk x 1) false := good_short (dk_dotless S.dl) (by rw [dk_len]; omega) (by rw [dk_len]; omega)
  refine @law_E _ _ _ _ _ _ _ _ _ _ Z room hh _ _ _ rfl msg hx10 (.head _) (fun v hv => ?_) h
  simp only [List.mem_cons, List.not_mem_nil, or_false] at hv
  rcases hv with rfl | rfl | rfl | rfl | rfl | rfl | rfl | rfl | rfl | rfl
  · exact ⟨_, _, _, _, rfl, by repeat (first | exact .head _ | refine .tail _ ?_ | refine f9 _ ?_ | refine f8 _ ?_ | refine f7 _ ?_ | refine f6 _ ?_ | refine f5 _ ?_ | refine f4 _ ?_ | refine f3 _ ?_ | refine f2 _ ?_ | refine f1 _ ?_), gover⟩
  · exact ⟨_, _, _, _, rfl, by repeat (first | exact .head _ | refine .tail _ ?_ | refine f9 _ ?_ | refine f8 _ ?_ | refine f7 _ ?_ | refine f6 _ ?_ | refine f5 _ ?_ | refine f4 _ ?_ | refine f3 _ ?_ | refine f2 _ ?_ | refine f1 _ ?_), g2⟩
  · exact ⟨_, _, _, _, rfl, by repeat (first | exact .head _ | refine .tail _ ?_ | refine f9 _ ?_ | refine f8 _ ?_ | refine f7 _ ?_ | refine f6 _ ?_ | refine f5 _ ?_ | refine f4 _ ?_ | refine f3 _ ?_ | refine f2 _ ?_ | refine f1 _ ?_), g3⟩
  · exact ⟨_, _, _, _, rfl, by repeat (first | exact .head _ | refine .tail _ ?_ | refine f9 _ ?_ | refine f8 _ ?_ | refine f7 _ ?_ | refine f6 _ ?_ | refine f5 _ ?_ | refine f4 _ ?_ | refine f3 _ ?_ | refine f2 _ ?_ | refine f1 _ ?_), G4⟩
  · exact ⟨_, _, _, _, rfl, by repeat (first | exact .head _ | refine .tail _ ?_ | refine f9 _ ?_ | refine f8 _ ?_ | refine f7 _ ?_ | refine f6 _ ?_ | refine f5 _ ?_ | refine f4 _ ?_ | refine f3 _ ?_ | refine f2 _ ?_ | refine f1 _ ?_), good5 S (by lia)⟩
  · exact ⟨_, _, _, _, rfl, by repeat (first | exact .head _ | refine .tail _ ?_ | refine f9 _ ?_ | refine f8 _ ?_ | refine f7 _ ?_ | refine f6 _ ?_ | refine f5 _ ?_ | refine f4 _ ?_ | refine f3 _ ?_ | refine f2 _ ?_ | refine f1 _ ?_), good6 S (by omega) rfl⟩
  · exact ⟨_, _, _, _, rfl, by repeat (first | exact .head _ | refine .tail _ ?_ | refine f9 _ ?_ | refine f8 _ ?_ | refine f7 _ ?_ | refine f6 _ ?_ | refine f5 _ ?_ | refine f4 _ ?_ | refine f3 _ ?_ | refine f2 _ ?_ | refine f1 _ ?_), G7⟩
  · exact ⟨_, _, _, _, rfl, by repeat (first | exact .head _ | refine .tail _ ?_ | refine f9 _ ?_ | refine f8 _ ?_ | refine f7 _ ?_ | refine f6 _ ?_ | refine f5 _ ?_ | refine f4 _ ?_ | refine f3 _ ?_ | refine f2 _ ?_ | refine f1 _ ?_), G8⟩
  · exact ⟨_, _, _, _, rfl, by repeat (first | exact .head _ | refine .tail _ ?_ | refine f9 _ ?_ | refine f8 _ ?_ | refine f7 _ ?_ | refine f6 _ ?_ | refine f5 _ ?_ | refine f4 _ ?_ | refine f3 _ ?_ | refine f2 _ ?_ | refine f1 _ ?_), good9 S (by omega)⟩
  · exact ⟨_, _, _, _, rfl, by repeat (first | exact .head _ | refine .tail _ ?_ | refine f9 _ ?_ | refine f8 _ ?_ | refine f7 _ ?_ | refine f6 _ ?_ | refine f5 _ ?_ | refine f4 _ ?_ | refine f3 _ ?_ | refine f2 _ ?_ | refine f1 _ ?_), good10 S (by omega)⟩
end
end Mine
namespace Mine
open PySem PySem.W PySem.Calls PyProof.Rows
section
variable {w : World} {T : Tops} {s₀ : Shared} {A : Around} {Q : Value → Shared → Prop}
theorem s_law {sc : Addr} {so : Obj} {vs : List Value} {script : List Int} (g : G w T s₀.heap) (room : A.depth + 21 ≤ recursionLimit) (hh : A.handled = none) (hu : A.units + 23 < cLine) (hl : s₀.heap.get? sc = some so) (hlo : IsL so vs.toArray) (hi : IntsAre vs script) (hn : script.length ≤ 63)
    (h : ∀ s', Later w T s₀ s' → Q (.bool true) s') : wpAny (model P31 w) A (call (.ref (T.f 18)) [.ref sc]) Q NoE s₀ := by
  refine call_fn (i := 18) (binds := [("script", .ref sc)]) (by decide) g (by omega) (by rfl) (by rfl) (by rfl) (fun s Z => ?_) (by rfl) (by rfl) (by rfl)
  have room' : (A.deeper (envF T 18 s₀.heap.objs.size)).depth + 20 ≤ recursionLimit := by show A.depth + 1 + 20 ≤ _; omega
  have hu' : (A.deeper (envF T 18 s₀.heap.objs.size)).units + 20 < cLine := by show A.units + 3 + 20 < _; omega
  have hh' : (A.deeper (envF T 18 s₀.heap.objs.size)).handled = none := hh
  refine @law_A _ _ _ _ _ _ _ _ _ _ _ _ Z room' hh' hu' hl hlo hi hn rfl fun m news s rw Z m1 m2 hr => ?_
  refine @law_B _ _ _ _ _ _ _ _ _ _ _ _ _ Z room' hh' hl hlo hi hn m1 m2 hr fun m news s pt Z B hr hp => ?_
  refine @law_C1 _ _ _ _ _ _ _ _ _ _ _ Z hh' hu' B hr hp fun m news s pl Z B hr hp => ?_
  refine @law_C2 _ _ _ _ _ _ _ _ _ _ _ Z room' hh' hu' B hr hp fun m news s x t Z B msg S hp => ?_
  refine @law_D1 _ _ _ _ _ _ _ _ _ _ _ _ _ Z room' hh' B msg S hp fun m news s Z B msg => ?_
  refine @law_D2 _ _ _ _ _ _ _ _ _ _ _ _ _ Z room' hh' B msg S fun m news s pc over o lf L nn Z B go hop hlf ho hpc hL => ?_
  exact @law_D3 _ _ _ _ _ _ _ _ _ _ _ _ _ _ _ _ _ Z room' hh' B S go hop hlf ho hpc hL h
end
end Mine
namespace Mine
open PySem PySem.W PySem.Calls PyProof.Rows
noncomputable def isDone : Step → Bool
  | .halt (.done _) _ => true
  | _ => false
theorem not_done {x : Step} {f : Flow} {s' : Shared} (hx : isDone x = false) (h : x = .halt (.done f) s') : False := Bool.noConfusion (hx.symm.trans (congrArg isDone h))
theorem step_done {den : Code → Sem Fin} {p : Program} {w : World} {s s' : Shared} {t : Thread} {f : Flow} (h : step den p w s t = .halt (.done f) s') : s' = s ∧ through t = true := by
  obtain ⟨heap, gens, drawn, toks, os⟩ := s
  obtain ⟨cur, code, pos, stack⟩ := t
  cases cur with
  | pure fin =>
    cases fin with
    | again c => exact (not_done rfl h).elim
    | done g =>
      cases stack with
      | nil =>
        by_cases hl : leftWithCleanup gens = true
        · have e : step den p w ⟨heap, gens, drawn, toks, os⟩ ⟨.pure (.done g), code, pos, []⟩ = .halt (.unsupported "lifetime:generator-with-cleanup-left-suspended") ⟨heap, gens, drawn, toks, os⟩ := if_pos hl
          exact (not_done rfl (e.symm.trans h)).elim
        · have e : step den p w ⟨heap, gens, drawn, toks, os⟩ ⟨.pure (.done g), code, pos, []⟩ = .halt (.done g) ⟨heap, gens, drawn, toks, os⟩ := if_neg hl
          cases e.symm.trans h
          exact ⟨rfl, rfl⟩
      | cons fr rest => cases fr <;> exact (not_done rfl h).elim
  | raise e =>
    cases stack with
    | nil =>
      refine (not_done ?_ h).elim
      show isDone (if leftWithCleanup gens = true then _ else _) = false
      by_cases hl : leftWithCleanup gens = true
      · rw [if_pos hl]; rfl
      · rw [if_neg hl]; rfl
    | cons fr rest => cases fr <;> exact (not_done rfl h).elim
  | _ => first
    | exact (not_done rfl h).elim
    | (refine (not_done ?_ h).elim
       simp only [step]
       first
       | (split <;> rfl)
       | (split <;> first | rfl | (split <;> rfl)))
theorem sched_through {den : Code → Sem Fin} {p : Program} {w : World} : ∀ (n : Nat) (s : Shared) (t : Thread) (s' : Shared) (f : Flow), s.asleep → runN den p w n s t = .halted (.done f) s' → (∀ k s₁ t₁, runN den p w k s t = .running s₁ t₁ → t₁.calm = true) →
    ∃ m t₁, schedN den p w m (.single s t) = .running (.single s' t₁) ∧ through t₁ = true
  | 0, _, _, _, _, _, h, _ => by cases h
  | n + 1, s, t, s', f, hz, h, hc => by
    have hc0 : t.calm = true := hc 0 s t rfl
    unfold runN at h
    cases hs : step den p w s t with
    | halt o s₂ =>
      rw [hs] at h
      cases h
      obtain ⟨rfl, ht⟩ := step_done hs
      exact ⟨0, t, rfl, ht⟩
    | go s₂ t₂ =>
      rw [hs] at h
      have hl := step_life den p w s s₂ t t₂ hs
      obtain ⟨m, t₁, hm, ht₁⟩ := sched_through n s₂ t₂ s' f (Shared.asleep_of_life hl hz) h fun k s₁ t₁ hk => hc (k + 1) s₁ t₁ (by unfold runN; rw [hs]; exact hk)
      have e : sstep den p w (.single s t) = .go (.single s₂ t₂) := by
        rcases sstep_single den p w s t hc0 hz with e | e
        · rw [e, hs]; rfl
        · rw [hs] at e; cases e
      exact ⟨m + 1, t₁, by simp only [schedN, e]; exact hm, ht₁⟩
/-- a top that ends well, run by the machine -/
theorem top_runs {p : Program} {w : World} {t : Sem Fin} {s : Shared} {R : Shared → Prop} (hz : s.asleep)
    (h : wpAny (model p w) callerA t (fun fin s' => ∃ f, fin = .done f ∧ R s' ∧ s'.gens = #[]) (fun _ _ => False) s) :
    ∃ s₁ s', (∃ n t₁, schedN (denote table) p w n (.single s ⟨t, .builtin "claim.caller" {}, default, []⟩) = .running (.single s₁ t₁) ∧ through t₁ = true) ∧ s₁.heap.life = s.heap.life ∧ s₁.heap = s'.heap ∧ s₁.os = s'.os ∧ s₁.gens = #[] ∧ R s' := by
  have hlc : ∀ s' : Shared, s'.gens = #[] → leftWithCleanup s'.gens = false := fun s' e => by rw [e]; unfold leftWithCleanup; simp
  have h1 := wp_of_wpAny_done (R := fun r s' => ((∃ f, r = .ok f) ∧ R s' ∧ s'.gens = #[]) ∧ leftWithCleanup s'.gens = false) caller_in (@wpAny_mono _ _ _ _ _ _ _ _ _ h (fun fin s' ⟨f, e, a, b⟩ => ⟨f, e, ⟨⟨f, rfl⟩, a, b⟩, hlc _ b⟩) fun _ _ x => x.elim) default
  obtain ⟨n, r, s', hn, ⟨f, rfl⟩, hR, hg⟩ := (wp_iff_halts (M := model p w) (R := fun r s' => (∃ f, r = .ok f) ∧ R s' ∧ s'.gens = #[]) t default s).mp h1
  obtain ⟨n', s'', hr, hf, hcalm⟩ := (halts_real_iff (M := model p w) s'.forget).mpr ⟨n, s', hn, rfl⟩
  obtain ⟨eh, _, _, eo, eg⟩ := Shared.forget_eq hf
  obtain ⟨m, t₁, hm, ht₁⟩ := sched_through n' s ⟨t, .builtin "claim.caller" {}, default, []⟩ s'' f hz hr hcalm
  refine ⟨s'', s', ⟨m, t₁, hm, ht₁⟩, runN_life _ _ _ hr, eh, eo, ?_, hR⟩
  rw [hg] at eg
  have := congrArg Array.size eg
  rw [Array.size_map, Array.size_map] at this
  exact Array.eq_empty_of_size_eq_zero this
end Mine
namespace Mine
open PySem PySem.W PySem.Calls PyProof.Rows
/-- what survives when only the globals and their code table change -/
noncomputable def Stable (Pl : Addr) (F : Heap → Prop) : Prop := ∀ h h' : Heap, (∀ b o, b ≠ Pl → b ≠ mainGlobals → h.get? b = some o → h'.get? b = some o) → F h → F h'
structure Mo (h₀ : Heap) (mg₀ : Str → Option Value) (c Pl : Addr) (mg : Str → Option Value) (ps : Array Value) (fs : List (Heap → Prop)) (h : Heap) : Prop where
  main : h.Main mg c Pl ps
  keep : ∀ b o, b ≠ Pl → b ≠ mainGlobals → h₀.get? b = some o → h.get? b = some o
  facts : ∀ F ∈ fs, Stable Pl F ∧ F h
  grows : h₀.objs.size ≤ h.objs.size
  lowP : Pl < h₀.objs.size
  lowG : mainGlobals < h₀.objs.size
  oth : ∀ x v, mg x = some v → x ∈ P31.boundNames ∨ mg₀ x = some v
  laid : ∀ x ∈ laidNames, mg x = mg₀ x
section
variable {w : World} {A : Around} {s : Shared} {c Pl F : Addr} {h₀ : Heap} {mg₀ mg : Str → Option Value} {ps : Array Value} {fs : List (Heap → Prop)} {Q : Flow → Shared → Prop}
noncomputable abbrev envM (c F : Addr) : Env := mainEnv P31 c F
theorem Mo.step {x : Str} {v : Value} {ps' : Array Value} {h' : Heap} (X : Mo h₀ mg₀ c Pl mg ps fs s.heap) (hm : h'.Main (upd mg x v) c Pl ps') (hk : ∀ b o, b ≠ Pl → b ≠ mainGlobals → s.heap.get? b = some o → h'.get? b = some o) (hsz : h₀.objs.size ≤ h'.objs.size)
    (hx : P31.boundNames.contains x = true) (hl : laidNames.contains x = false) : Mo h₀ mg₀ c Pl (upd mg x v) ps' fs h' :=
  ⟨hm, fun b o h1 h2 e => hk b o h1 h2 (X.keep b o h1 h2 e), fun F hF => ⟨(X.facts F hF).1, (X.facts F hF).1 _ _ hk (X.facts F hF).2⟩, hsz, X.lowP, X.lowG, fun y u e => by
    unfold upd at e
    split at e
    · rename_i q; rw [q]; exact .inl (List.contains_iff_mem.mp hx)
    · exact X.oth y u e, fun y hy => by
    unfold upd
    rw [if_neg (fun q => by rw [← q, List.contains_iff_mem.mpr hy] at hl; cases hl)]
    exact X.laid y hy⟩
theorem Mo.add {G : Heap → Prop} (X : Mo h₀ mg₀ c Pl mg ps fs s.heap) (hs : Stable Pl G) (hG : G s.heap) : Mo h₀ mg₀ c Pl mg ps (G :: fs) s.heap :=
  ⟨X.main, X.keep, fun F hF => by
    rcases List.mem_cons.mp hF with rfl | hF
    · exact ⟨hs, hG⟩
    · exact X.facts F hF, X.grows, X.lowP, X.lowG, X.oth, X.laid⟩
/-- more on the heap, the globals as they were -/
theorem Mo.grown {h₁ : Heap} (X : Mo h₀ mg₀ c Pl mg ps fs s.heap) (hk : ∀ b o, s.heap.get? b = some o → h₁.get? b = some o) (hsz : s.heap.objs.size ≤ h₁.objs.size) : Mo h₀ mg₀ c Pl mg ps fs h₁ := by
  obtain ⟨bm, o, hbm, hne0, hneG, hneP, hbo, hrest⟩ := X.main.bmod
  exact ⟨⟨X.main.g.keeps hk, X.main.code.keeps hk, X.main.low, ⟨bm, o, hbm, hne0, hneG, hneP, hk _ _ hbo, hrest⟩⟩, fun b o h1 h2 e => hk b o (X.keep b o h1 h2 e), fun F hF => ⟨(X.facts F hF).1, (X.facts F hF).1 _ _ (fun b o _ _ e => hk b o e) (X.facts F hF).2⟩,
    Nat.le_trans X.grows hsz, X.lowP, X.lowG, X.oth, X.laid⟩
/-- a name of the top takes a value -/
theorem Mo.store {x : Str} {v : Value} {Q : Unit → Shared → Prop} {E : Value → Shared → Prop} (X : Mo h₀ mg₀ c Pl mg ps fs s.heap) (k : ∀ s', Mo h₀ mg₀ c Pl (upd mg x v) ps fs s'.heap → s'.os = s.os → s'.gens = s.gens → Q () s')
    (hloc : P31.main.scope.names.lookup x = some .local := by rfl) (hx : P31.boundNames.contains x = true := by rfl) (hl : laidNames.contains x = false := by rfl) (hnb : x ≠ "__builtins__" := by decide) : wpAny (model P31 w) A (storeName (envM c F) x v) Q E s := by
  refine wpAny_storeName_local (env := envM c F) hloc X.main.g (fun h' hg' hs' => ?_) (by rfl)
  obtain ⟨bm, o, hbm, hne0, hneG, hneP, hbo, hrest⟩ := X.main.bmod
  have hm : h'.Main (upd mg x v) c Pl ps :=
    ⟨hg', X.main.code.sameBut hs' (Nat.ne_of_gt X.main.low.1) (Nat.ne_of_gt X.main.low.2), X.main.low,
      ⟨bm, o, by unfold upd; rw [if_neg (Ne.symm hnb)]; exact hbm, hne0, hneG, hneP, (hs'.2 _ hneG).trans hbo, hrest⟩⟩
  exact k _ (X.step hm (fun b o _ hG e => (hs'.2 _ hG).trans e) (Nat.le_trans X.grows (Nat.le_of_eq hs'.1.symm)) hx hl) rfl rfl
/-- a def, as it stands -/
noncomputable def DefF (name : Str) (params : Arguments) (body : List Stmt) (scope : Scope) (pm : Value) (a c' P' : Addr) (h : Heap) : Prop :=
  h.get? a = some { cls := .type "function", data := .func (plainDef name params body scope pm (.ref c')) } ∧ CodeOk h c' name ∧ CodeHd h c' P' ∧ h.get? P' = some (tabObj #[])
theorem DefF.stable {name : Str} {params : Arguments} {body : List Stmt} {scope : Scope} {pm : Value} {a c' P' : Addr} (ha : a ≠ Pl ∧ a ≠ mainGlobals) (hc : c' ≠ Pl ∧ c' ≠ mainGlobals) (hP : P' ≠ Pl ∧ P' ≠ mainGlobals) : Stable Pl (DefF name params body scope pm a c' P') :=
  fun h h' k ⟨h1, ⟨o, vs, t, e1, e2⟩, ⟨o', vs', file, tf, flags, tg, inF, text, tt, f1, r⟩, h4⟩ => ⟨k _ _ ha.1 ha.2 h1, ⟨o, vs, t, k _ _ hc.1 hc.2 e1, e2⟩, ⟨o', vs', file, tf, flags, tg, inF, text, tt, k _ _ hc.1 hc.2 f1, r⟩, k _ _ hP.1 hP.2 h4⟩
theorem Mo.def {name : Str} {params : Arguments} {body : List Stmt} {scope : Scope} {pos : Pos} {E : Value → Shared → Prop} (X : Mo h₀ mg₀ c Pl mg ps fs s.heap)
    (k : ∀ s' a c' P' pm, Mo h₀ mg₀ c Pl (upd mg name (.ref a)) (ps ++ #[rawInt pos.line, rawInt pos.col, .ref c']) (DefF name params body scope pm a c' P' :: fs) s'.heap → s'.os = s.os → s'.gens = s.gens → h₀.objs.size ≤ P' → s.heap.objs.size ≤ P' → P' < s'.heap.objs.size → Q .next s')
    (hexec : PlainDefTree name params body scope pos := by exact fun _ => rfl) (hfree : ∀ x ∈ scope.names, x.2 ≠ .free := by decide) (hdoc : docOf body = none := by rfl) (hloc : P31.main.scope.names.lookup name = some .local := by rfl)
    (hq : qualnameIn { scope := P31.main.scope, locals := mainGlobals, globals := mainGlobals, cells := [] } name name = name := by rfl)
    (hx : P31.boundNames.contains name = true := by rfl) (hlx : laidNames.contains name = false := by rfl)
    (hnb : name ≠ "__builtins__" := by decide) (hnf : codeAmong pos ps.toList = none := by rfl) :
    wpAny (model P31 w) A (exec (.FunctionDef name params body [] none [] scope none name pos) (envM c F)) Q E s := by
  refine @wpAny_plainDefN _ _ _ _ _ _ _ _ _ _ _ _ _ _ _ _ hexec hfree hdoc hloc hq X.main (fun a c' h' tk ha hm hf hcd htb keep => ?_) hnb rfl hnf
  obtain ⟨P', hP', hi, ht⟩ := htb
  have aboveP : ∀ b, s.heap.objs.size ≤ b → b ≠ Pl ∧ b ≠ mainGlobals := fun b hb => by
    have h1 := X.lowP
    have h2 := X.lowG
    have h3 := X.grows
    exact ⟨Nat.ne_of_gt (Nat.lt_of_lt_of_le h1 (Nat.le_trans h3 hb)), Nat.ne_of_gt (Nat.lt_of_lt_of_le h2 (Nat.le_trans h3 hb))⟩
  have Y := X.step hm keep (Nat.le_trans X.grows (Nat.le_trans ha (Nat.le_of_lt (Heap.lt_size hf)))) hx hlx
  have hcode : CodeOk h' c' name := by
    obtain ⟨c'', o, vs, t, e, e1, e2, e3⟩ := hcd.2
    cases e
    exact ⟨o, vs, t, e1, e2, e3⟩
  have htab : h'.get? P' = some (tabObj #[]) := ht.2
  refine k ⟨h', s.gens, s.drawn, tk, s.os⟩ a c' P' _ (Mo.add (s := ⟨h', s.gens, s.drawn, tk, s.os⟩) Y (DefF.stable (aboveP a ha) (aboveP c' hcd.1) (aboveP P' hP')) ⟨hf, hcode, CodeHd.of hi ht, htab⟩) rfl rfl (Nat.le_trans X.grows hP') hP' (Heap.lt_size htab)
end
end Mine
namespace Mine
open PySem PySem.W PySem.Calls PyProof.Rows
section
variable {w : World} {A : Around} {E : Value → Shared → Prop} {s : Shared}
noncomputable abbrev sk (w : World) := PySem.strKind P31 w
theorem put_new {d : Addr} {kvs : List (Str × Value)} {k : Str} {key v : Value} {Q : Unit → Shared → Prop} (hkey : (sk w).is k key = true) (hm : s.heap.DictOf (sk w) d kvs) (hnew : k ∉ kvs.map (·.1)) (hsz : kvs.length ≤ 1000)
    (hQ : ∀ h', h'.DictOf (sk w) d (kvs ++ [(k, v)]) → Heap.SameBut d s.heap h' → Q () { s with heap := h' }) : wpAny (model P31 w) A (dictPut d ((sk w).hash k) key v) Q E s := by
  obtain ⟨o, es, ep, ho, hc, hd, hk, hp, hn⟩ := hm
  have hes : es.size ≤ sizeLine := by
    have e1 := hp.length
    have e2 : es.toList.length = es.size := by simp
    unfold sizeLine; lia
  unfold dictPut
  refine @wpAny_bind _ _ _ _ _ _ _ _ _ (wpAny_dictFind_of (s := s) hkey ho hd hk ?_)
  have hidx : (es.findIdx? fun e => (sk w).is k e.key) = kvs.findIdx? fun kv => decide (kv.1 = k) := by
    rw [← hp.findIdx k]; obtain ⟨l⟩ := es; simp
  have hnone : (es.findIdx? fun e => (sk w).is k e.key) = none := by
    rw [hidx, List.findIdx?_eq_none_iff]
    intro kv hkv
    exact decide_eq_false fun e => hnew (e ▸ List.mem_map_of_mem hkv)
  rw [hnone]
  refine wpAny_updateDictKeys (hz := hes) ho hd (hQ _ ⟨_, _, ep + 1, Heap.get?_update_self _ ho (Obj.isFreed_of_dict (Obj.data_mapDictKeys hd _)), hc.mapDictKeys _, Obj.data_mapDictKeys hd _, hk.push hkey _, ?_, ?_⟩ (Heap.SameBut.update ..))
  · have := hp.append hkey ((sk w).hash k) v
    obtain ⟨l⟩ := es
    simpa using this
  · rw [List.map_append, List.nodup_append]
    refine ⟨hn, by simp, fun a ha b hb => ?_⟩
    simp only [List.map_cons, List.map_nil, List.mem_singleton] at hb
    subst hb
    exact fun e => hnew (e ▸ ha)
theorem pairs_get {es : List DictEntry} {kvs : List (Str × Value)} (h : Pairs (sk w) es kvs) : ∀ (i : Nat) (e : DictEntry), es[i]? = some e → ∃ k v, kvs[i]? = some (k, v) ∧ (sk w).is k e.key = true ∧ e.val = v := by
  induction h with
  | nil => intro i e he; simp at he
  | cons h1 h2 _ ih =>
    intro i e he
    cases i with
    | zero =>
      simp only [List.getElem?_cons_zero, Option.some.injEq] at he
      subst he
      exact ⟨_, _, rfl, h1, h2⟩
    | succ i => exact ih i e (by simpa using he)
theorem merge_new {d a : Addr} {kvs more : List (Str × Value)} {Q : Unit → Shared → Prop} (hda : d ≠ a) (ha : (a == sysModules) = false) (hm : s.heap.DictOf (sk w) d kvs) (hm2 : s.heap.DictOf (sk w) a more) (hne : kvs ≠ []) (hsz : kvs.length + more.length ≤ 1000)
    (hnd : ((kvs ++ more).map (·.1)).Nodup) (hQ : ∀ h', h'.DictOf (sk w) d (kvs ++ more) → Heap.SameBut d s.heap h' → Q () { s with heap := h' }) : wpAny (model P31 w) A (mergeMapping d (.ref a) false) Q E s := by
  unfold mergeMapping
  refine @goal_hide _ fun G hG => ?_
  obtain ⟨o, es, ep, ho, hc, hd, hk, hp, hn⟩ := id hm
  obtain ⟨o2, es2, ep2, ho2, hc2, hd2, hk2, hp2, hn2⟩ := id hm2
  refine hG ?_
  clear hG
  refine @wpAny_bind _ _ _ _ _ _ _ _ _ (wpAny_isInstance (T := "dict") (b := true) hm2.typeIs (by rw [isSubtype_type]; kernel_rfl) ?_)
  refine wpAny_ite_split (fun _ => ?_) (fun hab => absurd rfl hab)
  refine @wpAny_bind _ _ _ _ _ _ _ _ _ (@wpAny_specialOf _ _ _ _ _ _ _ _ _ hm2.typeIs PySem.F.slot_dict_iter.lookup ?_)
  show wpAny _ A (if (a == sysModules) = true then _ else _) _ _ _
  rw [if_neg (by rw [ha]; decide)]
  refine @wpAny_bind _ _ _ _ _ _ _ _ _ (@wpAny_dictEntries _ _ _ _ _ _ _ _ _ _ ho hd ?_)
  have hemp : ¬ es.isEmpty = true := by
    intro q
    have h1 := hp.length
    have h2 : es.toList.length = 0 := by simpa using q
    exact hne (List.length_eq_zero_iff.mp (by lia))
  rw [if_neg hemp]
  refine @wpAny_bind _ _ _ _ _ _ _ _ _ (@wpAny_dictEntries _ _ _ _ _ _ _ _ _ _ ho2 hd2 ?_)
  refine @wpAny_bind _ _ _ _ _ _ _ _ _ (@wpAny_dictEpoch _ _ _ _ _ _ _ _ _ _ ho2 hd2 ?_)
  have hlen : es2.size = more.length := by
    have h1 := hp2.length
    have h2 : es2.toList.length = es2.size := by simp
    (clear hsz hemp; lia)
  refine @wpAny_bind _ _ _ _ _ _ _ _ _ (@wpAny_forIn_list _ _ _ _ _ _ _ (fun rest _ s' => ∃ i h', rest = (List.range es2.size).drop i ∧ i ≤ es2.size ∧ s' = { s with heap := h' } ∧ h'.DictOf (sk w) d (kvs ++ more.take i) ∧ Heap.SameBut d s.heap h') _ ?_ ?_ _ _ ⟨0, s.heap, rfl, Nat.zero_le _, rfl, by simpa using hm, .refl ..⟩)
  · intro x rest b s' hI
    refine @goal_hide _ fun G hG => ?_
    obtain ⟨i, h', hr, hi, rfl, hm', hsb⟩ := hI
    have hlt : i < es2.size := by
      refine Nat.lt_of_not_le fun q => ?_
      rw [List.drop_of_length_le (by rw [List.length_range]; exact q)] at hr
      cases hr
    rw [List.drop_eq_getElem_cons (by rw [List.length_range]; exact hlt), List.getElem_range] at hr
    obtain ⟨rfl, rfl⟩ := List.cons.inj hr
    refine hG ?_
    clear hG
    have ho2' : h'.get? a = some o2 := (hsb.2 a (Ne.symm hda)).trans ho2
    refine @wpAny_bind _ _ _ _ _ _ _ _ _ (@wpAny_dictEntries _ _ _ _ _ _ _ _ _ _ ho2' hd2 ?_)
    have hex : es2[x]? = some es2[x] := Array.getElem?_eq_getElem hlt
    rw [hex]
    refine @goal_hide _ fun G hG => ?_
    obtain ⟨k, v, hkv, hik, hv⟩ := pairs_get hp2 x es2[x] (by rw [Array.getElem?_toList]; exact hex)
    obtain ⟨k', hik', hh⟩ := hk2 es2[x] (Array.getElem_mem hlt)
    obtain rfl := (sk w).inj _ _ _ hik' hik
    have htk : more.take (x + 1) = more.take x ++ [(k', v)] := by rw [List.take_add_one, hkv]; rfl
    refine hG ?_
    clear hG
    refine @wpAny_bind _ _ _ _ _ _ _ _ _ (@wpAny_holding _ _ _ _ _ _ _ _ ?_)
    show wpAny _ A (dictPut d es2[x].hash es2[x].key es2[x].val) _ _ _
    rw [hh]
    refine @put_new _ _ _ _ _ _ _ _ _ _ hik hm' (fun hmem => ?_) (by rw [List.length_append, List.length_take]; lia) fun h'' hm'' hsb'' => ?_
    · rw [List.map_append, List.nodup_append] at hnd
      rw [List.map_append] at hmem
      have hxl : x < more.length := by (clear hsz hnd hemp hi hh; lia)
      rcases List.mem_append.mp hmem with q | q
      · exact hnd.2.2 _ q _ (List.mem_map_of_mem (List.mem_of_getElem? hkv)) rfl
      · obtain ⟨⟨k2, v2⟩, hm2', e2⟩ := List.mem_map.mp q
        obtain ⟨j, hj⟩ := List.mem_iff_getElem?.mp hm2'
        have hjx : j < x := by
          have := (List.getElem?_eq_some_iff.mp hj).1
          rw [List.length_take] at this; lia
        rw [List.getElem?_take_of_lt hjx] at hj
        have e3 : (more.map (·.1))[j]? = some k' := by rw [List.getElem?_map, hj]; exact congrArg some e2
        have e4 : (more.map (·.1))[x]? = some k' := by rw [List.getElem?_map, hkv]; rfl
        obtain ⟨l3, e3⟩ := List.getElem?_eq_some_iff.mp e3
        obtain ⟨l4, e4⟩ := List.getElem?_eq_some_iff.mp e4
        exact List.pairwise_iff_getElem.mp hnd.2.1 j x l3 l4 hjx (e3.trans e4.symm)
    · have ho2'' : h''.get? a = some o2 := (hsb''.2 a (Ne.symm hda)).trans ho2'
      refine @wpAny_bind _ _ _ _ _ _ _ _ _ (@wpAny_dictEpoch _ _ _ _ _ _ _ _ _ _ ho2'' hd2 ?_)
      rw [if_neg (by simp)]
      refine @wpAny_pure _ _ _ _ _ _ _ ⟨x + 1, h'', rfl, hlt, rfl, ?_, hsb.trans hsb''⟩
      rw [htk, ← List.append_assoc, ← hv]; exact hm''
  · rintro b s' ⟨i, h', hr, hi, rfl, hm', hsb⟩
    have hi : i = es2.size := by
      have := congrArg List.length hr
      rw [List.length_drop, List.length_range] at this
      simp at this; (clear hsz hemp hlen; lia)
    rw [hi, hlen, List.take_length] at hm'
    exact @wpAny_pure _ _ _ _ _ _ _ (hQ h' hm' hsb)
/-- a pair of a display: a text, and a value that stands -/
noncomputable def PairOk (w : World) (A : Around) (I : Heap → Prop) (p : Sem Value × Sem Value) (x : Str × Value) : Prop := ∀ s : Shared, I s.heap →
  (∀ (Q : Value → Shared → Prop) (E : Value → Shared → Prop), (∀ t tk, Q (.str x.1 t) { s with toks := tk }) → wpAny (model P31 w) A p.1 Q E s) ∧ (∀ (Q : Value → Shared → Prop) (E : Value → Shared → Prop), (∀ tk, Q x.2 { s with toks := tk }) → wpAny (model P31 w) A p.2 Q E s)
inductive PairsOk (w : World) (A : Around) (I : Heap → Prop) : List (Sem Value × Sem Value) → List (Str × Value) → Prop
  | nil : PairsOk w A I [] []
  | cons {p x ps xs} : PairOk w A I p x → PairsOk w A I ps xs → PairsOk w A I (p :: ps) (x :: xs)
theorem PairsOk.length {I : Heap → Prop} {ps : List (Sem Value × Sem Value)} {xs : List (Str × Value)} (h : PairsOk w A I ps xs) : ps.length = xs.length := by
  induction h with
  | nil => rfl
  | cons _ _ ih => simp [ih]
theorem PairsOk.append {I : Heap → Prop} {ps qs : List (Sem Value × Sem Value)} {xs ys : List (Str × Value)} (h : PairsOk w A I ps xs) (h2 : PairsOk w A I qs ys) : PairsOk w A I (ps ++ qs) (xs ++ ys) := by
  induction h with
  | nil => exact h2
  | cons a _ ih => exact .cons a ih
/-- what the display needs of the heap stays when dicts come and fill -/
noncomputable def Firm (n0 : Nat) (I : Heap → Prop) : Prop := (∀ h o, I h → I (h.push o)) ∧ ∀ h h' d, n0 ≤ d → I h → Heap.SameBut d h h' → I h'
theorem eval_pairs {I : Heap → Prop} : ∀ {ps : List (Sem Value × Sem Value)} {xs : List (Str × Value)} {s : Shared} {Q : List (Value × Value) → Shared → Prop}, PairsOk w A I ps xs → I s.heap → (∀ vs tk, Carries (sk w) vs xs → Q vs { s with toks := tk }) → wpAny (model P31 w) A (evalPairs ps) Q E s
  | _, _, s, Q, .nil, _, h => @evalPairs_nil _ _ _ _ _ _ (h [] s.toks trivial)
  | _, _, s, Q, .cons hp hr, hI, h => by
    refine @evalPairs_cons _ _ _ _ _ _ _ _ _ ((hp s hI).1 _ _ fun t tk => (hp { s with toks := tk } hI).2 _ _ fun tk2 => eval_pairs (s := { s with toks := tk2 }) hr hI fun vs tk3 hc => ?_)
    exact h _ tk3 ⟨strKind_is P31 w _ _, rfl, hc⟩
theorem merged_new {acc : List (Str × Value)} : ∀ {xs : List (Str × Value)}, ((acc ++ xs).map (·.1)).Nodup → merged acc xs = acc ++ xs := by
  intro xs
  induction xs generalizing acc with
  | nil => intro _; simp [merged]
  | cons x xs ih =>
    intro h
    have h1 : stored acc x.1 x.2 = acc ++ [x] := by
      unfold stored
      rw [if_neg]
      intro q
      obtain ⟨kv, hkv, e⟩ := List.any_eq_true.mp q
      rw [List.map_append, List.nodup_append] at h
      exact h.2.2 _ (List.mem_map_of_mem hkv) _ (List.mem_map_of_mem (List.mem_cons_self ..)) (of_decide_eq_true e)
    show merged (stored acc x.1 x.2) xs = _
    rw [h1, ih (by rw [List.append_assoc]; exact h), List.append_assoc]; rfl
theorem sub_dict {I : Heap → Prop} {n0 : Nat} (hF : Firm n0 I) (hn0 : n0 ≤ s.heap.objs.size) {ps : List (Sem Value × Sem Value)} {xs : List (Str × Value)} {Q : Addr → Shared → Prop} (hp : PairsOk w A I ps xs) (hI : I s.heap) (hnd : (xs.map (·.1)).Nodup) (hlen : xs.length ≤ 100)
    (h : ∀ h' tk, h'.DictOf (sk w) s.heap.objs.size xs → I h' → (∀ b o, s.heap.get? b = some o → h'.get? b = some o) → Q s.heap.objs.size { s with heap := h', toks := tk }) : wpAny (model P31 w) A (subDict ps) Q E s := by
  have hl := hp.length
  have old : ∀ (h₁ h' : Heap), Heap.SameBut s.heap.objs.size h₁ h' → (∀ b o, s.heap.get? b = some o → h₁.get? b = some o) → ∀ b o, s.heap.get? b = some o → h'.get? b = some o := fun h₁ h' hs hk b o e => (hs.2 b (Nat.ne_of_lt (Heap.lt_size e))).trans (hk b o e)
  by_cases h15 : ps.length ≤ 15
  · refine wpAny_subDict (knd := sk w) h15 (@eval_pairs _ _ _ _ _ _ _ _ hp (hF.1 _ _ hI) fun vs tk hc => ⟨xs, hc, Heap.DictOf.new _, fun h' hm hs => ?_⟩)
    rw [merged_new (by rw [List.nil_append]; exact hnd), List.nil_append] at hm
    exact h h' _ hm (hF.2 _ _ _ hn0 (hF.1 _ _ hI) hs) (old _ _ hs fun b o e => Heap.get?_push_of_some _ e)
  · unfold subDict
    refine @wpAny_bind _ _ _ _ _ _ _ _ _ (@wpAny_alloc _ _ _ _ _ _ ?_)
    refine @wpAny_bind _ _ _ _ _ _ _ _ _ (@wpAny_holding _ _ _ _ _ _ _ _ ?_)
    rw [if_neg h15]
    refine @wpAny_bind _ _ _ _ _ _ _ _ _ (@wpAny_rule _ _ _ _ _ _ ?_)
    refine @wpAny_bind _ _ _ _ _ _ _ _ _ (@wpAny_forIn_list _ _ _ _ _ _ _ (fun rest _ s' => ∃ done more h' tk, xs = done ++ more ∧ PairsOk w A I rest more ∧ s' = { s with heap := h', toks := tk } ∧ h'.DictOf (sk w) s.heap.objs.size done ∧ I h' ∧ (∀ b o, s.heap.get? b = some o → h'.get? b = some o)) _ ?_ ?_ _ _
      ⟨[], xs, _, s.toks, rfl, hp, rfl, Heap.DictOf.new _, hF.1 _ _ hI, fun b o e => Heap.get?_push_of_some _ e⟩)
    · rintro p rest b s' ⟨done, more, h', tk, hx, hpr, rfl, hm, hI', hk⟩
      cases hpr with
      | cons hp1 hpr =>
        rename_i x more
        refine @wpAny_bind _ _ _ _ _ _ _ _ _ ((hp1 _ hI').1 _ _ fun t tk1 => @wpAny_bind _ _ _ _ _ _ _ _ _ (@wpAny_holding _ _ _ _ _ _ _ _ ((hp1 _ hI').2 _ _ fun tk2 => @wpAny_bind _ _ _ _ _ _ _ _ _ (@wpAny_holding _ _ _ _ _ _ _ _ ?_))))
        have hdl : done.length ≤ 100 := by
          have := congrArg List.length hx
          rw [List.length_append] at this; lia
        refine wpAny_dictSet_pairs (k := x.1) (hsz := by unfold sizeLine; lia) (strKind_is P31 w _ _) hm fun h'' hm'' hs'' => ?_
        have hst : stored done x.1 x.2 = done ++ [x] := by
          have := merged_new (acc := done) (xs := [x]) (by
            rw [hx, show done ++ x :: more = (done ++ [x]) ++ more by simp, List.map_append, List.nodup_append] at hnd
            exact hnd.1)
          exact this
        rw [hst] at hm''
        refine @wpAny_pure _ _ _ _ _ _ _ ⟨done ++ [x], more, h'', _, by rw [hx]; simp, hpr, rfl, hm'', hF.2 _ _ _ hn0 hI' hs'', old _ _ hs'' hk⟩
    · rintro b s' ⟨done, more, h', tk, hx, hpr, rfl, hm, hI', hk⟩
      cases hpr
      rw [List.append_nil] at hx
      exact @wpAny_pure _ _ _ _ _ _ _ (@wpAny_pure _ _ _ _ _ _ _ (h h' tk (hx ▸ hm) hI' hk))
end
end Mine
namespace Mine
open PySem PySem.W PySem.Calls PyProof.Rows
noncomputable abbrev PV := Sem Value × Sem Value
noncomputable abbrev LS := Option Addr × List PV
section
variable {f : (Option (Sem Value) × Sem Value) → LS → Sem (ForInStep LS)}
theorem gather (H1 : ∀ main (p : PV) (run : List PV), run.length + 1 < 17 → f (some p.1, p.2) (main, run) = pure (.yield (main, run ++ [p]))) {rest : List (Option (Sem Value) × Sem Value)} {main : Option Addr} :
    ∀ (items run : List PV), run.length + items.length < 17 → forIn (items.map (fun p => (some p.1, p.2)) ++ rest) (main, run) f = forIn rest (main, run ++ items) f
  | [], run, _ => by simp
  | p :: items, run, h => by
    rw [List.map_cons, List.cons_append, List.forIn_cons, H1 main p run (by simp at h; lia), pure_bind]
    have := gather H1 (rest := rest) (main := main) items (run ++ [p]) (by simp at h ⊢; lia)
    simpa using this
end
section
variable {w : World} {A : Around} {E : Value → Shared → Prop} {s : Shared}
theorem display {I : Heap → Prop} {n0 : Nat} (hF : Firm n0 I) (hn0 : n0 ≤ s.heap.objs.size) {a b c : List PV} {xa xb xc : List (Str × Value)} {Q : Value → Shared → Prop} (ha : PairsOk w A I a xa) (hb : PairsOk w A I b xb) (hc : PairsOk w A I c xc) (la : a.length = 17) (lb : b.length = 17) (lc : 1 ≤ c.length) (lc2 : c.length < 17)
    (hI : I s.heap) (hlow : sysModules < s.heap.objs.size) (hnd : ((xa ++ xb ++ xc).map (·.1)).Nodup)
    (h : ∀ d h' tk, h'.DictOf (sk w) d (xa ++ xb ++ xc) → I h' → s.heap.objs.size ≤ d → (∀ b o, s.heap.get? b = some o → h'.get? b = some o) → Q (.ref d) { s with heap := h', toks := tk }) :
    wpAny (model P31 w) A (dictDisplay ((a ++ b ++ c).map fun p => (some p.1, p.2))) Q E s := by
  obtain ⟨a', pa, rfl⟩ : ∃ a' p, a = a' ++ [p] := ⟨a.dropLast, a.getLast (by rintro rfl; simp at la), (List.dropLast_concat_getLast _).symm⟩
  obtain ⟨b', pb, rfl⟩ : ∃ a' p, b = a' ++ [p] := ⟨b.dropLast, b.getLast (by rintro rfl; simp at lb), (List.dropLast_concat_getLast _).symm⟩
  have la' : a'.length = 16 := by simpa using la
  have lb' : b'.length = 16 := by simpa using lb
  unfold dictDisplay
  dsimp only
  have e0 : ((a' ++ [pa] ++ (b' ++ [pb]) ++ c).map fun p : PV => ((some p.1, p.2) : Option (Sem Value) × Sem Value)) = a'.map (fun p => (some p.1, p.2)) ++ ((some pa.1, pa.2) :: (b'.map (fun p => (some p.1, p.2)) ++ ((some pb.1, pb.2) :: (c.map (fun p => (some p.1, p.2)) ++ [])))) := by simp
  rw [e0]
  have H1 : ∀ (main : Option Addr) (p : PV) (run : List PV), run.length + 1 < 17 → ((run ++ [(p.1, p.2)]).length == 17) = false := fun _ p run h => by simp; lia
  rw [gather (fun main p run h => by
    have := H1 main p run h
    simp only [this, Bool.false_eq_true, if_false]) a' [] (by simp; lia)]
  rw [List.forIn_cons]
  have e17 : ((a' ++ [(pa.1, pa.2)]).length == 17) = true := by simp [la']
  simp only [List.nil_append, e17, if_true]
  have nd := hnd
  rw [List.map_append, List.map_append, List.nodup_append, List.nodup_append] at nd
  have hla := ha.length
  have hlb := hb.length
  have hlc := hc.length
  refine @wpAny_bind _ _ _ _ _ _ _ _ _ (@wpAny_bind _ _ _ _ _ _ _ _ _ (@wpAny_bind _ _ _ _ _ _ _ _ _ ?_))
  rw [if_neg (by simp)]
  refine @wpAny_bind _ _ _ _ _ _ _ _ _ (@sub_dict _ _ _ _ _ _ hF hn0 _ _ _ ha hI nd.1.1 (by lia) fun h1 tk1 hm1 hI1 hk1 => @wpAny_pure _ _ _ _ _ _ _ (@wpAny_pure _ _ _ _ _ _ _ ?_))
  have hd1 : s.heap.objs.size < h1.objs.size := by
    obtain ⟨o, es, ep, ho, _⟩ := hm1
    exact Heap.lt_size ho
  show wpAny _ A (forIn _ (some s.heap.objs.size, []) _) _ _ _
  rw [gather (fun main p run h => by
    have := H1 main p run h
    simp only [this, Bool.false_eq_true, if_false]) b' [] (by simp; lia)]
  rw [List.forIn_cons]
  have e17b : ((b' ++ [(pb.1, pb.2)]).length == 17) = true := by simp [lb']
  simp only [List.nil_append, e17b, if_true]
  refine @wpAny_bind _ _ _ _ _ _ _ _ _ (@wpAny_bind _ _ _ _ _ _ _ _ _ ?_)
  rw [if_neg (by simp)]
  refine @wpAny_bind _ _ _ _ _ _ _ _ _ (@wpAny_holding _ _ _ _ _ _ _ _ (@sub_dict _ _ _ _ _ _ hF (show n0 ≤ h1.objs.size by lia) _ _ _ hb hI1 nd.1.2.1 (by lia) fun h2 tk2 hm2 hI2 hk2 => ?_))
  have hm1' : h2.DictOf (sk w) s.heap.objs.size xa := by
    obtain ⟨o, es, ep, ho, r⟩ := hm1
    exact ⟨o, es, ep, hk2 _ _ ho, r⟩
  have hne1 : xa ≠ [] := by
    intro q; rw [q] at hla; simp at hla
  refine @wpAny_bind _ _ _ _ _ _ _ _ _ (@wpAny_onRaise _ _ _ _ _ _ _ _ (@wpAny_holding _ _ _ _ _ _ _ _ (@merge_new _ _ _ _ _ _ _ _ _ (Nat.ne_of_lt hd1) (beq_eq_false_iff_ne.mpr (Nat.ne_of_gt (Nat.lt_trans hlow hd1))) hm1' hm2 hne1 (by lia) (by rw [List.map_append, List.nodup_append]; exact nd.1) fun h3 hm3 hs3 => ?_)))
  have hI3 := hF.2 _ _ _ hn0 hI2 hs3
  refine @wpAny_pure _ _ _ _ _ _ _ (@wpAny_pure _ _ _ _ _ _ _ ?_)
  have old3 : ∀ b o, s.heap.get? b = some o → h3.get? b = some o := fun b o e => (hs3.2 b (Nat.ne_of_lt (Heap.lt_size e))).trans (hk2 _ _ (hk1 _ _ e))
  have hd3 : s.heap.objs.size < h3.objs.size := by
    obtain ⟨o, es, ep, ho, _⟩ := hm3
    exact Heap.lt_size ho
  show wpAny _ A (forIn _ (some s.heap.objs.size, []) _) _ _ _
  rw [gather (fun main p run h => by
    have := H1 main p run h
    simp only [this, Bool.false_eq_true, if_false]) c [] (by simp; lia)]
  rw [List.forIn_nil]
  refine @wpAny_pure _ _ _ _ _ _ _ ?_
  have hcne : c ≠ [] := by rintro rfl; simp at lc
  refine @wpAny_bind _ _ _ _ _ _ _ _ _ ?_
  rw [if_neg (by simpa using hcne)]
  refine @wpAny_bind _ _ _ _ _ _ _ _ _ (@wpAny_holding _ _ _ _ _ _ _ _ (@sub_dict _ _ _ _ _ _ hF (show n0 ≤ h3.objs.size by lia) _ _ _ hc hI3 nd.2.1 (by lia) fun h4 tk4 hm4 hI4 hk4 => ?_))
  have hm3' : h4.DictOf (sk w) s.heap.objs.size (xa ++ xb) := by
    obtain ⟨o, es, ep, ho, r⟩ := hm3
    exact ⟨o, es, ep, hk4 _ _ ho, r⟩
  refine @wpAny_bind _ _ _ _ _ _ _ _ _ (@wpAny_onRaise _ _ _ _ _ _ _ _ (@wpAny_holding _ _ _ _ _ _ _ _ (@merge_new _ _ _ _ _ _ _ _ _ (Nat.ne_of_lt hd3) (beq_eq_false_iff_ne.mpr (Nat.ne_of_gt (Nat.lt_trans hlow hd3))) hm3' hm4 (by simp [hne1]) (by rw [List.length_append]; lia) hnd fun h5 hm5 hs5 => ?_)))
  refine @wpAny_pure _ _ _ _ _ _ _ (@wpAny_pure _ _ _ _ _ _ _ ?_)
  exact h _ h5 _ hm5 (hF.2 _ _ _ hn0 hI4 hs5) (Nat.le_refl _) fun b o e => (hs5.2 b (Nat.ne_of_lt (Heap.lt_size e))).trans (hk4 _ _ (old3 _ _ e))
end
end Mine
namespace Mine
open PySem PySem.W PySem.Calls PyProof.Rows
section
variable {w : World} {A : Around} {E : Value → Shared → Prop} {s : Shared} {c Pl F : Addr} {h₀ : Heap} {mg₀ mg mb : Str → Option Value} {ps : Array Value} {fs : List (Heap → Prop)}
theorem Mo.str {x y : Str} {p' pp pos : Pos} {k : Nat} {Q : Flow → Shared → Prop} (X : Mo h₀ mg₀ c Pl mg ps fs s.heap) (kk : ∀ s' t, Mo h₀ mg₀ c Pl (upd mg x (.str y t)) ps fs s'.heap → s'.os = s.os → s'.gens = s.gens → Q .next s')
    (hloc : P31.main.scope.names.lookup x = some .local := by rfl) (hx : P31.boundNames.contains x = true := by rfl) (hl : laidNames.contains x = false := by rfl) (hnb : x ≠ "__builtins__" := by decide) :
    wpAny (model P31 w) A (exec (.Assign [.Name x p'] (.Constant (.str y) k pp) pos) (envM c F)) Q E s :=
  @wpAny_Assign_Name _ _ _ _ _ _ _ _ _ _ ( @wpAny_Constant_str _ _ _ _ _ _ _ _ _ <| Mo.store (s := { s with toks := s.toks + 1 }) X (fun s' Y e1 e2 => kk s' _ Y e1 e2) hloc hx hl hnb) (by rfl)
noncomputable def asg1 (t v : Expr) : Option (Str × Int) := match t with
  | .Name x _ => (match v with
    | .Constant (.int i) _ _ => some (x, i)
    | _ => none)
  | _ => none
noncomputable def constAsg (st : Stmt) : Option (Str × Int) := match st with
  | .Assign ts v _ => (match ts with
    | [t] => asg1 t v
    | _ => none)
  | _ => none
inductive AsgOf : Stmt → Str → Int → Prop
  | mk (x : Str) (p' : Pos) (i : Int) (kk : Nat) (pp pos : Pos) : AsgOf (.Assign [.Name x p'] (.Constant (.int i) kk pp) pos) x i
theorem constAsg_inv {st : Stmt} {x : Str} {i : Int} (h : constAsg st = some (x, i)) : AsgOf st x i := by
  cases st with
  | Assign ts v p => cases ts with
    | nil => exact @none_ne _ _ _ h
    | cons t ts => cases ts with
      | nil => cases t with
        | Name y p' => cases v with
          | Constant c kk pp => cases c with
            | int j => cases h; exact .mk ..
            | _ => exact @none_ne _ _ _ h
          | _ => exact @none_ne _ _ _ h
        | _ => exact @none_ne _ _ _ h
      | cons _ _ => exact @none_ne _ _ _ h
  | _ => exact @none_ne _ _ _ h
noncomputable def okName (x : Str) : Bool := P31.main.scope.names.lookup x == some .local && P31.boundNames.contains x && !laidNames.contains x && x != "__builtins__"
theorem Mo.ints {Q : Flow → Shared → Prop} {rest : List Stmt} : ∀ {sts : List Stmt} {l : List (Str × Int)} {mg : Str → Option Value} {s : Shared}, sts.map constAsg = l.map some → l.all (fun p => okName p.1) = true → (l.map (·.1)).Nodup → Mo h₀ mg₀ c Pl mg ps fs s.heap →
    (∀ mg' s', Mo h₀ mg₀ c Pl mg' ps fs s'.heap → s'.os = s.os → s'.gens = s.gens → (∀ x, x ∉ l.map (·.1) → mg' x = mg x) → (∀ p ∈ l, ∃ t, mg' p.1 = some (.int p.2 t)) → wpAny (model P31 w) A (execs rest (envM c F)) Q E s') →
    wpAny (model P31 w) A (execs (sts ++ rest) (envM c F)) Q E s
  | [], [], mg, s, _, _, _, X, k => k mg s X rfl rfl (fun _ _ => rfl) nofun
  | [], _ :: _, _, _, h, _, _, _, _ => by simp at h
  | _ :: _, [], _, _, h, _, _, _, _ => by simp at h
  | st :: sts, (x, i) :: l, mg, s, h, ho, hn, X, k => by
    rw [List.map_cons, List.map_cons] at h
    obtain ⟨h1, h2⟩ := List.cons.inj h
    rw [List.all_cons, Bool.and_eq_true] at ho
    obtain ⟨o1, o2⟩ := ho
    unfold okName at o1
    simp only [Bool.and_eq_true, beq_iff_eq, Bool.not_eq_true', bne_iff_ne] at o1
    rw [List.map_cons, List.nodup_cons] at hn
    obtain ⟨_, p', _, kk, pp, pos⟩ := constAsg_inv h1
    refine @wpAny_execs_cons _ _ _ _ _ _ _ _ <| @wpAny_Assign_Name _ _ _ _ _ _ _ _ _ _ ( @wpAny_Constant_int _ _ _ _ _ _ _ _ _ <| Mo.store (s := { s with toks := s.toks + 1 }) X (fun s' Y e1 e2 => ?_) o1.1.1.1 o1.1.1.2 o1.1.2 o1.2) (by rfl)
    refine Mo.ints h2 o2 hn.2 Y fun mg' s'' Y' e3 e4 h3 h4 => k mg' s'' Y' (e3.trans e1) (e4.trans e2) (fun y hy => ?_) fun p hp => ?_
    · rw [List.map_cons, List.mem_cons, not_or] at hy
      rw [h3 y hy.2]
      unfold upd; rw [if_neg hy.1]
    · rcases List.mem_cons.mp hp with rfl | hp
      · exact ⟨s.toks, by rw [h3 _ hn.1]; unfold upd; rw [if_pos rfl]⟩
      · exact h4 p hp
theorem mlb {x : Str} {v : Value} {pos : Pos} {Q : Value → Shared → Prop} (hg : s.heap.Ns mainGlobals mg) (hb : s.heap.Ns builtinsNs mb) (hmiss : mg x = none) (hv : mb x = some v) (h : Q v s) (hd : (x == ("__debug__" : Str)) = false := by decide) :
    wpAny (model P31 w) A (eval (.Name x pos) (envM c F)) Q E s := @Name_module _ _ _ _ _ _ _ _ rfl rfl (loadGlobal_builtin (env := envM c F) hg hmiss hb hv h) hd
theorem mlg {x : Str} {v : Value} {pos : Pos} {Q : Value → Shared → Prop} (hg : s.heap.Ns mainGlobals mg) (hv : mg x = some v) (h : Q v s) (hd : (x == ("__debug__" : Str)) = false := by decide) :
    wpAny (model P31 w) A (eval (.Name x pos) (envM c F)) Q E s := @Name_module _ _ _ _ _ _ _ _ rfl rfl (loadGlobal_global (env := envM c F) hg hv h) hd
noncomputable def posLit : Expr → Option Int
  | .Constant (.int i) _ _ => some i
  | _ => none
inductive PosOf : Expr → Int → Prop
  | mk (i : Int) (k : Nat) (p : Pos) : PosOf (.Constant (.int i) k p) i
theorem posLit_inv {e : Expr} {i : Int} (h : posLit e = some i) : PosOf e i := by
  cases e with
  | Constant c k p => cases c with
    | int j => cases h; exact .mk ..
    | _ => exact @none_ne _ _ _ h
  | _ => exact @none_ne _ _ _ h
theorem lits_raw {env : Env} {pos : Pos} : ∀ (ns : List Int) {es : List Expr} {s : Shared} {Q : List Value → Shared → Prop}, es.map posLit = ns.map some → (∀ vs tk, IntsAre vs ns → Q vs { s with toks := tk }) →
    wpAny (model P31 w) A (spliced (backTo pos (starEach es env))) Q E s
  | [], [], s, Q, _, h => @args_nil _ _ _ _ _ _ _ (h [] s.toks .nil)
  | [], _ :: _, _, _, h, _ => by simp at h
  | _ :: _, [], _, _, h, _ => by simp at h
  | n :: ns, e :: es, s, Q, h, k => by
    rw [List.map_cons, List.map_cons] at h
    obtain ⟨h1, h2⟩ := List.cons.inj h
    obtain ⟨_, _, _⟩ := posLit_inv h1
    exact @a_cons _ _ _ _ _ _ _ _ _ (@wpAny_Constant_int _ _ _ _ _ _ _ _ _ <| lits_raw ns h2 fun vs tk hv => k _ tk (.cons _ _ hv)) rfl
theorem posLit_star {e : Expr} {i : Int} (he : posLit e = some i) : isStar e = false := by
  obtain ⟨_, _, _⟩ := posLit_inv he
  rfl
theorem getD_any {xs : List Int} {k : Int} : ((List.range xs.length).map (fun i => xs.getD i 0)).any (· == k) = xs.contains k := by
  have e : (List.range xs.length).map (fun i => xs.getD i 0) = xs := by
    apply List.ext_getElem
    · simp
    · intro i h1 h2
      simp only [List.getElem_map, List.getElem_range]
      rw [List.getD_eq_getElem?_getD, List.getElem?_eq_getElem h2]; rfl
  rw [e, Bool.eq_iff_iff, List.any_eq_true, List.contains_iff_mem]
  exact ⟨fun ⟨x, h1, h2⟩ => by rw [beq_iff_eq] at h2; rwa [← h2], fun h => ⟨k, h, by simp⟩⟩
theorem ints_of : ∀ {vs : List Value} {ns : List Int}, vs.length = ns.length → (∀ i v, vs[i]? = some v → ∃ t, v = Value.int (ns.getD i 0) t) → IntsAre vs ns
  | [], [], _, _ => .nil
  | [], _ :: _, h, _ => by simp at h
  | _ :: _, [], h, _ => by simp at h
  | v :: vs, n :: ns, h, k => by
    obtain ⟨t, rfl⟩ := k 0 v rfl
    exact .cons n t (ints_of (by simpa using h) fun i v hv => k (i + 1) v hv)
/-- set([..] + list(range(lo, hi))) -/
theorem set_expr {Q : Value → Shared → Prop} {es : List Expr} (ns : List Int) (lo : Int) (n : Nat) {hi : Int} {k1 k2 : Nat} {p1 p2 p3 p4 p5 p6 p7 p8 p9 p10 : Pos} (hh : A.handled = none) (hg : s.heap.Ns mainGlobals mg) (hb : s.heap.Ns builtinsNs mb)
    (m1 : mg "set" = none) (m2 : mb "set" = some (.type "set")) (m3 : mg "list" = none) (m4 : mb "list" = some (.type "list")) (m5 : mg "range" = none) (m6 : mb "range" = some (.type "range"))
    (hes : es.map posLit = ns.map some) (hl : ns.length ≤ 1000) (h0 : 0 ≤ lo) (h1 : lo < 2 ^ 40) (h2 : hi = lo + n) (h3 : n ≤ 1000)
    (h : ∀ d h' tk, (∃ o n', h'.get? d = some o ∧ o.cls = .type "set" ∧ o.IntSetOf (fun k => ns.contains k || (decide (lo ≤ k) && decide (k < hi))) n' ∧ n' < 4096) → (∀ b o, s.heap.get? b = some o → h'.get? b = some o) → s.heap.objs.size ≤ d → Q (.ref d) { s with heap := h', toks := tk }) :
    wpAny (model P31 w) A (eval (.Call (.Name "set" p1) [.BinOp (.List es p2) .Add (.Call (.Name "list" p3) [.Call (.Name "range" p4) [.Constant (.int lo) k1 p5, .Constant (.int hi) k2 p6] [] p7] [] p8) p9] [] p10) (envM c F)) Q E s := by
  refine @c_call _ _ _ _ _ _ _ _ _ _ <| @mlb _ _ _ _ _ _ _ _ _ _ _ _ hg hb m1 m2 ( @c_typ _ _ _ _ _ _ _ _ _ _ ( @a_cons _ _ _ _ _ _ _ _ _ ( @wpAny_BinOp _ _ _ _ _ _ _ _ _ _ <| @List_ _ _ _ _ _ _ _ _ <| lits_raw ns hes fun vs tk hv => @wpAny_newList _ _ _ _ _ _ ?_ (by rw [hv.length]; unfold sizeLine; lia)) (by rfl)) (by rfl) (by rfl)) (by decide)
  have kp : ∀ b o, s.heap.get? b = some o → (s.heap.push { cls := .type "list", data := .seq vs.toArray }).get? b = some o := fun b o e => Heap.get?_push_of_some _ e
  refine @c_call _ _ _ _ _ _ _ _ _ _ <| @mlb _ _ _ _ _ _ _ _ _ _ _ _ (hg.keeps kp) (hb.keeps kp) m3 m4 ( @c_typ _ _ _ _ _ _ _ _ _ _ ( @a_cons _ _ _ _ _ _ _ _ _ ( @c_call _ _ _ _ _ _ _ _ _ _ <| @mlb _ _ _ _ _ _ _ _ _ _ _ _ (hg.keeps kp) (hb.keeps kp) m5 m6 ( @c_typ _ _ _ _ _ _ _ _ _ _ ( @a_cons _ _ _ _ _ _ _ _ _ ( @wpAny_Constant_int _ _ _ _ _ _ _ _ _ <| @a_cons _ _ _ _ _ _ _ _ _ ( @wpAny_Constant_int _ _ _ _ _ _ _ _ _ <| @args_nil _ _ _ _ _ _ _ <| @call_range_2 _ _ _ _ _ _ _ _ _ _ <| @args_nil _ _ _ _ _ _ _ ?_) (by rfl)) (by rfl)) (by rfl) (by rfl)) (by decide)) (by rfl)) (by rfl) (by rfl)) (by decide)
  refine PySem.call_list_range (n := n) hh (Heap.get?_push_size _ rfl) (small_one (by lia) (by lia) (by lia) (by lia)) (by rw [rangeSize_one]; split <;> lia) (by lia) fun h' tk acc c' hk hS hI => ?_
  have hlst : h'.get? s.heap.objs.size = some (lstO vs.toArray 0) := hk _ _ (Heap.get?_push_of_some _ (Heap.get?_push_size _ rfl))
  refine @PySem.P.add_list _ _ _ _ _ _ _ _ _ _ _ _ hlst hS ?_ (by have := hv.length; have := hI.1; simp; unfold sizeLine; lia)
  refine @args_nil _ _ _ _ _ _ _ ?_
  have hia : IntsAre acc.toList ((List.range n).map fun i : Nat => lo + (i : Int)) := ints_of (by rw [Array.length_toList, hI.1]; simp) fun i v hv => by
    obtain ⟨t, rfl⟩ := hI.2 i v (by rw [← Array.getElem?_toList]; exact hv)
    have hlt : i < n := by
      have := (List.getElem?_eq_some_iff.mp hv).1
      rw [Array.length_toList, hI.1] at this; exact this
    refine ⟨t, ?_⟩
    rw [List.getD_eq_getElem?_getD, List.getElem?_map, List.getElem?_range hlt]
    simp
  have hall : IntsAre (vs.toArray ++ acc).toList (ns ++ (List.range n).map fun i : Nat => lo + (i : Int)) := by
    rw [Array.toList_append]; exact hv.append hia
  have hlen := hall.length
  have hsz : (vs.toArray ++ acc).size = (ns ++ (List.range n).map fun i : Nat => lo + (i : Int)).length := by rw [← hlen]; simp
  refine PySem.call_set_list (items := vs.toArray ++ acc) (ns := ns ++ (List.range n).map fun i : Nat => lo + (i : Int)) hh ⟨_, Heap.get?_push_size _ rfl, rfl, ⟨_, rfl⟩⟩ hall (by rw [hsz]; simp; unfold scanBound; lia) fun h2' tk2 hS2 hk2 => ?_
  obtain ⟨o, ho, hso⟩ := hS2.objOf
  have hle : (firstMet (fun i => (ns ++ (List.range n).map fun i : Nat => lo + (i : Int)).getD i 0) (vs.toArray ++ acc).size).length < 4096 := Nat.lt_of_le_of_lt (firstMet_length_le _ _) (by rw [hsz]; simp; lia)
  refine h _ h2' tk2 ⟨o, _, ho, hso.1.1, ?_, hle⟩ (fun b o e => ?_) ?_
  · refine (?_ : (fun k' => _) = _) ▸ hso.intSetOf
    funext k
    rw [firstMet_any, hsz, getD_any, List.contains_append]
    refine congrArg (ns.contains k || ·) ?_
    rw [Bool.eq_iff_iff, List.contains_iff_mem, List.mem_map, Bool.and_eq_true, decide_eq_true_eq, decide_eq_true_eq]
    constructor
    · rintro ⟨h5, h6⟩
      exact ⟨(k - lo).toNat, by rw [List.mem_range]; (clear hl h0 h1 h3 hlen hsz hle; omega), by lia⟩
    · rintro ⟨i, hi, rfl⟩
      rw [List.mem_range] at hi
      (clear hl h0 h1 h3 hlen hsz hle; lia)
  · have e2 := Heap.get?_push_of_some { cls := .type "list", data := .seq (vs.toArray ++ acc) } (hk _ _ (Heap.get?_push_of_some _ (kp b o e)))
    exact hk2 b o (Heap.lt_size e2) e2
  · have := Heap.lt_size hS
    have h8 := Heap.lt_size hlst
    show s.heap.objs.size ≤ (h'.push _).objs.size
    show s.heap.objs.size ≤ (h'.objs.push _).size
    rw [Array.size_push]; exact Nat.le_succ_of_le (Nat.le_of_lt h8)
end
end Mine
namespace Mine
open PySem PySem.W PySem.Calls PyProof.Rows
section
variable {w : World} {A : Around} {E : Value → Shared → Prop} {s : Shared} {c Pl F : Addr} {h₀ : Heap} {mg₀ mg mb : Str → Option Value} {ps : Array Value} {fs : List (Heap → Prop)}
theorem Mo.none' {h : Heap} (X : Mo h₀ mg₀ c Pl mg ps fs h) {x : Str} (hb : P31.boundNames.contains x = false) (h0 : mg₀ x = none) : mg x = none := by
  cases e : mg x with
  | none => rfl
  | some v =>
    rcases X.oth x v e with q | q
    · rw [List.contains_iff_mem.mpr q] at hb; cases hb
    · rw [h0] at q; cases q
theorem Mo.nb {h : Heap} (X : Mo h₀ mg₀ c Pl mg ps fs h) (hb : h₀.Ns builtinsNs mb) (hP : builtinsNs ≠ Pl) : h.Ns builtinsNs mb :=
  let ⟨o, es, ep, ho, r⟩ := hb; ⟨o, es, ep, X.keep _ _ hP (by decide) ho, r⟩
noncomputable def SetF (S : Int → Bool) (a : Addr) (h : Heap) : Prop := ∃ o n, h.get? a = some o ∧ o.cls = .type "set" ∧ o.IntSetOf S n ∧ n < 4096
theorem SetF.stable {S : Int → Bool} {a : Addr} (h1 : a ≠ Pl) (h2 : a ≠ mainGlobals) : Stable Pl (SetF S a) := fun _ _ k ⟨o, n, e, r⟩ => ⟨o, n, k _ _ h1 h2 e, r⟩
theorem Mo.above {h : Heap} (X : Mo h₀ mg₀ c Pl mg ps fs h) {a : Addr} (ha : h.objs.size ≤ a) : a ≠ Pl ∧ a ≠ mainGlobals :=
  ⟨Nat.ne_of_gt (Nat.lt_of_lt_of_le X.lowP (Nat.le_trans X.grows ha)), Nat.ne_of_gt (Nat.lt_of_lt_of_le X.lowG (Nat.le_trans X.grows ha))⟩
theorem Mo.setAsg {x : Str} {p' pos : Pos} {Q : Flow → Shared → Prop} {es : List Expr} (ns : List Int) (lo : Int) (n : Nat) {hi : Int} {k1 k2 : Nat} {p1 p2 p3 p4 p5 p6 p7 p8 p9 p10 : Pos} (hh : A.handled = none) (X : Mo h₀ mg₀ c Pl mg ps fs s.heap)
    (hb : h₀.Ns builtinsNs mb) (hP : builtinsNs ≠ Pl)
    (m1 : mg₀ "set" = none) (m2 : mb "set" = some (.type "set")) (m3 : mg₀ "list" = none) (m4 : mb "list" = some (.type "list")) (m5 : mg₀ "range" = none) (m6 : mb "range" = some (.type "range"))
    (hes : es.map posLit = ns.map some) (hl : ns.length ≤ 1000) (h0 : 0 ≤ lo) (h1 : lo < 2 ^ 40) (h2 : hi = lo + n) (h3 : n ≤ 1000)
    (k : ∀ s' a, Mo h₀ mg₀ c Pl (upd mg x (.ref a)) ps (SetF (fun k => ns.contains k || (decide (lo ≤ k) && decide (k < hi))) a :: fs) s'.heap → s'.os = s.os → s'.gens = s.gens → Q .next s')
    (hloc : P31.main.scope.names.lookup x = some .local := by rfl) (hx : P31.boundNames.contains x = true := by rfl) (hl' : laidNames.contains x = false := by rfl) (hnb : x ≠ "__builtins__" := by decide)
    (hs : swapsWith (.Call (.Name "set" p1) [.BinOp (.List es p2) .Add (.Call (.Name "list" p3) [.Call (.Name "range" p4) [.Constant (.int lo) k1 p5, .Constant (.int hi) k2 p6] [] p7] [] p8) p9] [] p10) (some (.Name x p')) pos.line (envM c F) = pure false := by rfl) :
    wpAny (model P31 w) A (exec (.Assign [.Name x p'] (.Call (.Name "set" p1) [.BinOp (.List es p2) .Add (.Call (.Name "list" p3) [.Call (.Name "range" p4) [.Constant (.int lo) k1 p5, .Constant (.int hi) k2 p6] [] p7] [] p8) p9] [] p10) pos) (envM c F)) Q E s := by
  refine @wpAny_Assign_Name _ _ _ _ _ _ _ _ _ _ (@set_expr _ _ _ _ _ _ _ _ _ _ ns lo n _ _ _ _ _ _ _ _ _ _ _ _ _ hh X.main.g (X.nb hb hP) (X.none' (by rfl) m1) m2 (X.none' (by rfl) m3) m4 (X.none' (by rfl) m5) m6 hes hl h0 h1 h2 h3 fun d h' tk hd hk hsz => ?_) hs
  have hlt : d < h'.objs.size := by obtain ⟨o, n, e, _⟩ := hd; exact Heap.lt_size e
  have Y : Mo h₀ mg₀ c Pl mg ps fs ({ s with heap := h', toks := tk } : Shared).heap := X.grown hk (Nat.le_trans hsz (Nat.le_of_lt hlt))
  have Y := Y.add (s := { s with heap := h', toks := tk }) (SetF.stable (X.above hsz).1 (X.above hsz).2) hd
  exact Mo.store (s := { s with heap := h', toks := tk }) Y (fun s' Y e1 e2 => k s' d Y e1 e2) hloc hx hl' hnb
noncomputable def keyOf : Option Expr → Option Str
  | some (.Constant (.str x) _ _) => some x
  | _ => none
noncomputable def nameOf : Expr → Option Str
  | .Name x _ => some x
  | _ => none
theorem keyOf_inv {k : Option Expr} {x : Str} (h : keyOf k = some x) : ∃ kk p, k = some (.Constant (.str x) kk p) := by
  cases k with
  | none => exact @none_ne _ _ _ h
  | some e => cases e with
    | Constant c kk p => cases c with
      | str y => cases h; exact ⟨_, _, rfl⟩
      | _ => exact @none_ne _ _ _ h
    | _ => exact @none_ne _ _ _ h
theorem nameOf_inv {e : Expr} {x : Str} (h : nameOf e = some x) : ∃ p, e = .Name x p := by
  cases e with
  | Name y p => cases h; exact ⟨_, rfl⟩
  | _ => exact @none_ne _ _ _ h
noncomputable def valIn (mg : Str → Option Value) (p : Str × Str) : Str × Value := (p.1, (mg p.2).getD .none)
theorem pairs_ok {pos : Pos} : ∀ {L : List (Str × Str)} {keys : List (Option Expr)} {values : List Expr}, keys.map keyOf = L.map (fun p => some p.1) → values.map nameOf = L.map (fun p => some p.2) → (∀ p ∈ L, ∃ v, mg p.2 = some v) → (L.all fun p => !(p.2 == ("__debug__" : Str))) = true →
    PairsOk w A (fun h => h.Ns mainGlobals mg) (pairTrees keys values (envM c F) pos) (L.map (valIn mg))
  | [], [], [], _, _, _, _ => .nil
  | _ :: _, [], _, h, _, _, _ => by simp at h
  | _ :: _, _, [], _, h, _, _ => by simp at h
  | [], _ :: _, _, h, _, _, _ => by simp at h
  | [], [], _ :: _, _, h, _, _ => by simp at h
  | (x, y) :: L, k :: keys, v :: values, h1, h2, hv, hd => by
    rw [List.map_cons, List.map_cons] at h1 h2
    obtain ⟨a1, a2⟩ := List.cons.inj h1
    obtain ⟨b1, b2⟩ := List.cons.inj h2
    rw [List.all_cons, Bool.and_eq_true] at hd
    obtain ⟨d1, d2⟩ := hd
    obtain ⟨u, hu⟩ := hv (x, y) (.head _)
    obtain ⟨_, _, rfl⟩ := keyOf_inv a1
    obtain ⟨_, rfl⟩ := nameOf_inv b1
    refine .cons (fun s hI => ⟨fun Q E hq => by
      dsimp only
      exact @wpAny_Constant_str _ _ _ _ _ _ _ _ _ (hq _ _), fun Q E hq => ?_⟩) (pairs_ok a2 b2 (fun p hp => hv p (.tail _ hp)) d2)
    refine @wpAny_bind _ _ _ _ _ _ _ _ _ (@mlg _ _ _ _ _ _ _ _ _ _ _ hI hu ?_ (by simpa using d1))
    refine @wpAny_bind _ _ _ _ _ _ _ _ _ (@wpAny_standAt _ _ _ _ _ _ (@wpAny_pure _ _ _ _ _ _ _ ?_))
    have := hq s.toks
    unfold valIn at this
    rw [hu] at this
    exact this
theorem PairsOk.take_drop {I : Heap → Prop} {ps : List (Sem Value × Sem Value)} {xs : List (Str × Value)} (h : PairsOk w A I ps xs) : ∀ n, PairsOk w A I (ps.take n) (xs.take n) ∧ PairsOk w A I (ps.drop n) (xs.drop n) := by
  induction h with
  | nil => intro n; simp only [List.take_nil, List.drop_nil]; exact ⟨.nil, .nil⟩
  | cons a b ih =>
    intro n
    cases n with
    | zero => exact ⟨.nil, .cons a b⟩
    | succ n => exact ⟨.cons a (ih n).1, (ih n).2⟩
noncomputable def MapF (w : World) (f : Str → Option Value) (a : Addr) (h : Heap) : Prop := h.MapOf (sk w) a f
theorem Mo.dictAsg {x : Str} {p' pos dpos : Pos} {Q : Flow → Shared → Prop} {keys : List (Option Expr)} {values : List Expr} (L : List (Str × Str)) (X : Mo h₀ mg₀ c Pl mg ps fs s.heap)
    (hk : keys.map keyOf = L.map (fun p => some p.1)) (hv : values.map nameOf = L.map (fun p => some p.2)) (hb : ∀ p ∈ L, ∃ v, mg p.2 = some v) (hd : (L.all fun p => !(p.2 == ("__debug__" : Str))) = true) (hlen : L.length = 48) (hnd : (L.map (·.1)).Nodup) (hlow : sysModules < h₀.objs.size)
    (k : ∀ s' a, Mo h₀ mg₀ c Pl (upd mg x (.ref a)) ps (MapF w (valueAt (L.map (valIn mg))) a :: fs) s'.heap → s'.os = s.os → s'.gens = s.gens → (a == sysModules) = false → Q .next s')
    (hloc : P31.main.scope.names.lookup x = some .local := by rfl) (hx : P31.boundNames.contains x = true := by rfl) (hl' : laidNames.contains x = false := by rfl) (hnb : x ≠ "__builtins__" := by decide)
    (hs : swapsWith (.Dict keys values dpos) (some (.Name x p')) pos.line (envM c F) = pure false := by rfl) :
    wpAny (model P31 w) A (exec (.Assign [.Name x p'] (.Dict keys values dpos) pos) (envM c F)) Q E s := by
  have lk : keys.length = L.length := by have := congrArg List.length hk; simpa using this
  have lv : values.length = L.length := by have := congrArg List.length hv; simpa using this
  have hall : keys.all (·.isSome) = true := by
    rw [List.all_eq_true]
    intro e he
    have : keyOf e ∈ L.map (fun p => some p.1) := hk ▸ List.mem_map_of_mem he
    obtain ⟨p, _, q⟩ := List.mem_map.mp this
    cases e with
    | none => cases q
    | some _ => rfl
  have P := pairs_ok (w := w) (A := A) (c := c) (F := F) (pos := dpos) hk hv hb hd
  have hPl : (pairTrees keys values (envM c F) dpos).length = 48 := by rw [P.length, List.length_map, hlen]
  refine @wpAny_Assign_Name _ _ _ _ _ _ _ _ _ _ ?_ hs
  rw [arm_eval_Dict, zip_pairTrees keys values _ dpos hall (lk.trans lv.symm)]
  refine @wpAny_bind _ _ _ _ _ _ _ _ _ (@wpAny_standAt _ _ _ _ _ _ ?_)
  have P1 := (P.take_drop 17).1
  have P2 := ((P.take_drop 17).2.take_drop 17).1
  have P3 := ((P.take_drop 17).2.take_drop 17).2
  generalize pairTrees keys values (envM c F) dpos = R at *
  generalize hxs : L.map (valIn mg) = xs at *
  have e1 : R = R.take 17 ++ (R.drop 17).take 17 ++ (R.drop 17).drop 17 := by rw [List.append_assoc, List.take_append_drop, List.take_append_drop]
  have e2 : xs.take 17 ++ (xs.drop 17).take 17 ++ (xs.drop 17).drop 17 = xs := by rw [List.append_assoc, List.take_append_drop, List.take_append_drop]
  rw [e1]
  have hF : Firm s.heap.objs.size (fun h => h.Ns mainGlobals mg) :=
    ⟨fun h o hI => hI.keeps fun b o' e => Heap.get?_push_of_some _ e, fun h h' d hd hI hs => by
      obtain ⟨o, es, ep, ho, r⟩ := hI
      exact ⟨o, es, ep, (hs.2 _ (Ne.symm (X.above hd).2)).trans ho, r⟩⟩
  refine @display _ _ _ _ _ _ hF (Nat.le_refl _) _ _ _ _ _ _ _ P1 P2 P3 (by simp [hPl]) (by simp [hPl]) (by simp [hPl]) (by simp [hPl]) X.main.g (Nat.lt_of_lt_of_le hlow X.grows) ?_ fun d h' tk hm hI hsz hkeep => ?_
  · rw [e2, ← hxs, List.map_map]; exact hnd
  · rw [e2] at hm
    have hlt : d < h'.objs.size := by obtain ⟨o, es, ep, e, _⟩ := hm; exact Heap.lt_size e
    have Y : Mo h₀ mg₀ c Pl mg ps fs ({ s with heap := h', toks := tk } : Shared).heap := X.grown hkeep (Nat.le_trans hsz (Nat.le_of_lt hlt))
    have Y := Y.add (s := { s with heap := h', toks := tk }) (G := MapF w (valueAt xs) d) (fun h h' k ⟨o, es, n, e, r⟩ => ⟨o, es, n, k _ _ (X.above hsz).1 (X.above hsz).2 e, r⟩) hm.mapOf
    refine Mo.store (s := { s with heap := h', toks := tk }) Y (fun s' Y e1 e2 => k s' d Y e1 e2 ?_) hloc hx hl' hnb
    have h8 := Nat.lt_of_lt_of_le hlow (Nat.le_trans X.grows hsz)
    exact beq_eq_false_iff_ne.mpr (Nat.ne_of_gt h8)
end
end Mine
namespace Mine
open PySem PySem.W PySem.Calls PyProof.Rows
noncomputable def intTab : List (Str × Int) := ([("ENDMARKER", 0), ("LPAR", 7), ("RPAR", 8), ("LSQB", 9), ("RSQB", 10), ("COLON", 11), ("COMMA", 12), ("SEMI", 13), ("PLUS", 14), ("MINUS", 15), ("STAR", 16), ("SLASH", 17), ("VBAR", 18), ("AMPER", 19), ("LESS", 20), ("GREATER", 21), ("EQUAL", 22), ("DOT", 23), ("PERCENT", 24), ("LBRACE", 25), ("RBRACE", 26), ("EQEQUAL", 27), ("NOTEQUAL", 28), ("LESSEQUAL", 29), ("GREATEREQUAL", 30), ("TILDE", 31), ("CIRCUMFLEX", 32), ("LEFTSHIFT", 33), ("RIGHTSHIFT", 34), ("DOUBLESTAR", 35), ("PLUSEQUAL", 36), ("MINEQUAL", 37), ("STAREQUAL", 38), ("SLASHEQUAL", 39), ("PERCENTEQUAL", 40), ("AMPEREQUAL", 41), ("VBAREQUAL", 42), ("CIRCUMFLEXEQUAL", 43), ("LEFTSHIFTEQUAL", 44), ("RIGHTSHIFTEQUAL", 45), ("DOUBLESTAREQUAL", 46), ("DOUBLESLASH", 47), ("DOUBLESLASHEQUAL", 48), ("AT", 49), ("ATEQUAL", 50), ("RARROW", 51), ("ELLIPSIS", 52), ("COLONEQUAL", 53), ("EXCLAMATION", 54), ("NT_OFFSET", 256)] : List (String × Int)).map fun p => (Str.ofString p.1, p.2)
noncomputable def dictTab : List (Str × Str) := ([("!", "EXCLAMATION"), ("!=", "NOTEQUAL"), ("%", "PERCENT"), ("%=", "PERCENTEQUAL"), ("&", "AMPER"), ("&=", "AMPEREQUAL"), ("(", "LPAR"), (")", "RPAR"), ("*", "STAR"), ("**", "DOUBLESTAR"), ("**=", "DOUBLESTAREQUAL"), ("*=", "STAREQUAL"), ("+", "PLUS"), ("+=", "PLUSEQUAL"), (",", "COMMA"), ("-", "MINUS"), ("-=", "MINEQUAL"), ("->", "RARROW"), (".", "DOT"), ("...", "ELLIPSIS"), ("/", "SLASH"), ("//", "DOUBLESLASH"), ("//=", "DOUBLESLASHEQUAL"), ("/=", "SLASHEQUAL"), (":", "COLON"), (":=", "COLONEQUAL"), (";", "SEMI"), ("<", "LESS"), ("<<", "LEFTSHIFT"), ("<<=", "LEFTSHIFTEQUAL"), ("<=", "LESSEQUAL"), ("=", "EQUAL"), ("==", "EQEQUAL"), (">", "GREATER"), (">=", "GREATEREQUAL"), (">>", "RIGHTSHIFT"), (">>=", "RIGHTSHIFTEQUAL"), ("@", "AT"), ("@=", "ATEQUAL"), ("[", "LSQB"), ("]", "RSQB"), ("^", "CIRCUMFLEX"), ("^=", "CIRCUMFLEXEQUAL"), ("{", "LBRACE"), ("|", "VBAR"), ("|=", "VBAREQUAL"), ("}", "RBRACE"), ("~", "TILDE")] : List (String × String)).map fun p => (Str.ofString p.1, Str.ofString p.2)
noncomputable def bltAll : List (Str × Value) := bltTab ++ ([("set", .type "set"), ("list", .type "list")] : List (Str × Value))
theorem lookup_all : ∀ {l : List (Str × Value)} {m : Str → Option Value}, (∀ p ∈ l, m p.1 = some p.2) → ∀ x v, l.lookup x = some v → m x = some v
  | [], _, _, x, v, h => by cases h
  | (y, u) :: l, m, k, x, v, h => by
    rw [List.lookup_cons] at h
    split at h
    · rename_i e
      cases h
      rw [beq_iff_eq] at e
      rw [e]; exact k _ (.head _)
    · exact lookup_all (fun p hp => k p (.tail _ hp)) x v h
theorem lookup_mem : ∀ {l : List (Str × Value)} {x : Str} {v : Value}, l.lookup x = some v → (x, v) ∈ l
  | [], x, v, h => by cases h
  | (y, u) :: l, x, v, h => by
    rw [List.lookup_cons] at h
    split at h
    · rename_i e
      cases h
      rw [beq_iff_eq] at e
      rw [e]; exact .head _
    · exact .tail _ (lookup_mem h)
theorem blt_free : bltTab.all (fun p => !P31.boundNames.contains p.1) = true := by decide +kernel
theorem ints_list : ((P31.main.body.drop 17).take 50).map constAsg = intTab.map some := by decide +kernel
theorem ints_ok : intTab.all (fun p => okName p.1) = true := by decide +kernel
theorem ints_nodup : (intTab.map (·.1)).Nodup := by decide +kernel
theorem dict_ints : dictTab.all (fun p => intTab.contains (p.2, (intTab.lookup p.2).getD 0)) = true := by decide +kernel
theorem dict_debug : (dictTab.all fun p => !(p.2 == ("__debug__" : Str))) = true := by decide +kernel
theorem dict_len : dictTab.length = 48 := by decide +kernel
theorem dict_nodup : (dictTab.map (·.1)).Nodup := by decide +kernel
theorem tok_dict : tokTab = dictTab.map fun p => (p.1, (intTab.lookup p.2).getD 0) := by decide +kernel
theorem tok_value {m : Str → Option Value} : ∀ {l : List (Str × Str)}, (∀ p ∈ l, ∃ t, m p.2 = some (.int ((intTab.lookup p.2).getD 0) t)) → ∀ x, (∀ k, (l.map fun p => (p.1, (intTab.lookup p.2).getD 0)).lookup x = some k → ∃ t, valueAt (l.map (valIn m)) x = some (.int k t)) ∧ ((l.map fun p => (p.1, (intTab.lookup p.2).getD 0)).lookup x = none → valueAt (l.map (valIn m)) x = none)
  | [], _, x => ⟨fun k h => (by cases h), fun _ => rfl⟩
  | (y, z) :: l, hm, x => by
    obtain ⟨t, e⟩ := hm (y, z) (.head _)
    have ih := tok_value (m := m) (l := l) (fun p hp => hm p (.tail _ hp)) x
    rw [List.map_cons, List.map_cons, List.lookup_cons]
    unfold valueAt at ih ⊢
    rw [List.find?_cons]
    have ev : valIn m (y, z) = (y, .int ((intTab.lookup z).getD 0) t) := by unfold valIn; rw [e]; rfl
    rw [ev]
    by_cases q : x = y
    · subst q
      simp
    · have q1 : (x == y) = false := by simpa using q
      have q2 : decide (y = x) = false := by simpa using fun e : y = x => q e.symm
      rw [q1, q2]
      exact ih
noncomputable def dKeys : Stmt → List (Option Expr)
  | .Assign _ (.Dict ks _ _) _ => ks
  | _ => []
noncomputable def dVals : Stmt → List Expr
  | .Assign _ (.Dict _ vs _) _ => vs
  | _ => []
theorem dict_keys : (dKeys (stAt 67)).map keyOf = dictTab.map (fun p => some p.1) := by decide +kernel
theorem dict_vals : (dVals (stAt 67)).map nameOf = dictTab.map (fun p => some p.2) := by decide +kernel
theorem tail67 : (P31.main.body.drop 17).drop 50 = [stAt 67, stAt 68, stAt 69, stAt 70, stAt 71, stAt 72, stAt 73, stAt 74, stAt 75, stAt 76, stAt 77, stAt 78] := by kernel_rfl
theorem b1_eq : (fun k : Int => ([173, 847, 6150, 6155, 6156, 6157, 8203, 8204, 8205, 8288, 65279] : List Int).contains k || (decide (65024 ≤ k) && decide (k < 65040))) = b1S := by
  funext k
  have e : b1List = [173, 847, 6150, 6155, 6156, 6157, 8203, 8204, 8205, 8288, 65279] ++ (List.range 16).map (fun i : Nat => 65024 + (i : Int)) := by decide +kernel
  unfold b1S
  rw [e, List.contains_eq_any_beq, List.contains_eq_any_beq, List.any_append]
  congr 1
  rw [Bool.eq_iff_iff, List.any_eq_true, Bool.and_eq_true, decide_eq_true_eq, decide_eq_true_eq]
  refine ⟨fun h => ⟨k, List.mem_map.mpr ⟨(k - 65024).toNat, List.mem_range.mpr ?_, ?_⟩, beq_self_eq_true k⟩, ?_⟩
  · clear e; omega
  · clear e; lia
  · rintro ⟨x, hx, hk⟩
    obtain ⟨i, hi, rfl⟩ := List.mem_map.mp hx
    rw [eq_of_beq hk]
    have := List.mem_range.mp hi
    clear hk hx hi e
    lia
theorem c9_eq : (fun k : Int => ([917505] : List Int).contains k || (decide (917536 ≤ k) && decide (k < 917632))) = c9S := by
  funext k
  unfold c9S
  rw [Bool.eq_iff_iff]
  simp only [List.contains_cons, List.contains_nil, Bool.or_eq_true, Bool.and_eq_true, decide_eq_true_eq, beq_iff_eq, Bool.or_false]
section
variable {w : World} {A : Around} {E : Value → Shared → Prop} {s : Shared} {c Pl F : Addr} {h₀ : Heap} {mg₀ mg mb : Str → Option Value} {ps : Array Value} {fs : List (Heap → Prop)}
theorem Mo.int {x : Str} {i : Int} {p' pp pos : Pos} {k : Nat} {Q : Flow → Shared → Prop} (X : Mo h₀ mg₀ c Pl mg ps fs s.heap) (kk : ∀ s' t, Mo h₀ mg₀ c Pl (upd mg x (.int i t)) ps fs s'.heap → s'.os = s.os → s'.gens = s.gens → Q .next s')
    (hloc : P31.main.scope.names.lookup x = some .local := by rfl) (hx : P31.boundNames.contains x = true := by rfl) (hl : laidNames.contains x = false := by rfl) (hnb : x ≠ "__builtins__" := by decide) :
    wpAny (model P31 w) A (exec (.Assign [.Name x p'] (.Constant (.int i) k pp) pos) (envM c F)) Q E s :=
  @wpAny_Assign_Name _ _ _ _ _ _ _ _ _ _ ( @wpAny_Constant_int _ _ _ _ _ _ _ _ _ <| Mo.store (s := { s with toks := s.toks + 1 }) X (fun s' Y e1 e2 => kk s' _ Y e1 e2) hloc hx hl hnb) (by rfl)
noncomputable def flat : List (Nat × Nat × Addr) → List Value
  | [] => []
  | (l, k, c) :: ds => rawInt l :: rawInt k :: .ref c :: flat ds
theorem flat_append : ∀ (a b : List (Nat × Nat × Addr)), flat (a ++ b) = flat a ++ flat b
  | [], _ => rfl
  | (l, k, c) :: a, b => by show _ :: _ :: _ :: flat (a ++ b) = _; rw [flat_append a b]; rfl
theorem flat_none {pos : Pos} : ∀ {ds : List (Nat × Nat × Addr)}, (ds.map (·.1)).contains pos.line = false → codeAmong pos (flat ds) = none
  | [], _ => rfl
  | (l, k, c) :: ds, h => by
    rw [List.map_cons, List.contains_cons, Bool.or_eq_false_iff] at h
    have hne : l ≠ pos.line := fun e => by rw [e] at h; simp at h
    show (if ((l : Int) == (pos.line : Int) && (k : Int) == (pos.col : Int)) = true then _ else codeAmong pos (flat ds)) = none
    rw [if_neg (by simp; intro q; exact absurd (by lia) hne)]
    exact flat_none h.2
/-- the lines at which defs stand in the table -/
noncomputable def Lines (ls : List Nat) (ps : Array Value) : Prop := ∃ ds : List (Nat × Nat × Addr), ps.toList = flat ds ∧ ∀ n, (ds.map (·.1)).contains n = true → ls.contains n = true
theorem Lines.start : Lines [] #[] := ⟨[], rfl, fun _ h => h⟩
theorem Lines.none {ls : List Nat} {pos : Pos} (L : Lines ls ps) (h : ls.contains pos.line = false) : codeAmong pos ps.toList = Option.none := by
  obtain ⟨ds, e, hc⟩ := L
  rw [e]
  refine flat_none ?_
  cases q : (ds.map (·.1)).contains pos.line with
  | false => rfl
  | true => rw [hc _ q] at h; cases h
theorem Lines.snoc {ls : List Nat} {l k : Nat} {c' : Addr} (L : Lines ls ps) : Lines (l :: ls) (ps ++ #[rawInt l, rawInt k, .ref c']) := by
  obtain ⟨ds, e, hc⟩ := L
  refine ⟨ds ++ [(l, k, c')], by rw [Array.toList_append, e, flat_append]; rfl, fun n hn => ?_⟩
  rw [List.map_append, List.contains_append, Bool.or_eq_true] at hn
  rw [List.contains_cons, Bool.or_eq_true]
  rcases hn with q | q
  · exact .inr (hc n q)
  · exact .inl (by simpa using q)
theorem Mo.def' {ls : List Nat} {name : Str} {params : Arguments} {body : List Stmt} {scope : Scope} {pos : Pos} {E : Value → Shared → Prop} {Q : Flow → Shared → Prop} (X : Mo h₀ mg₀ c Pl mg ps fs s.heap) (L : Lines ls ps)
    (k : ∀ s' a c' P' pm ps', Mo h₀ mg₀ c Pl (upd mg name (.ref a)) ps' (DefF name params body scope pm a c' P' :: fs) s'.heap → Lines (pos.line :: ls) ps' → s'.os = s.os → s'.gens = s.gens → s.heap.objs.size ≤ P' → P' < s'.heap.objs.size → Q .next s')
    (hexec : PlainDefTree name params body scope pos := by exact fun _ => rfl) (hfree : ∀ x ∈ scope.names, x.2 ≠ .free := by decide) (hdoc : docOf body = none := by rfl) (hloc : P31.main.scope.names.lookup name = some .local := by rfl)
    (hq : qualnameIn { scope := P31.main.scope, locals := mainGlobals, globals := mainGlobals, cells := [] } name name = name := by rfl)
    (hx : P31.boundNames.contains name = true := by rfl) (hlx : laidNames.contains name = false := by rfl)
    (hnb : name ≠ "__builtins__" := by decide) (hnf : ls.contains pos.line = false := by rfl) :
    wpAny (model P31 w) A (exec (.FunctionDef name params body [] none [] scope none name pos) (envM c F)) Q E s :=
  @Mo.def _ _ _ _ _ _ _ _ _ _ _ _ _ _ _ _ _ _ X (fun s' a c' P' pm Y e1 e2 _ l1 l2 => k s' a c' P' pm _ Y L.snoc e1 e2 l1 l2) hexec hfree hdoc hloc hq hx hlx hnb (L.none hnf)
noncomputable abbrev Mo.mgOf {h : Heap} (_ : Mo h₀ mg₀ c Pl mg ps fs h) : Str → Option Value := mg
/-- what the boot gives -/
structure Boot0 (h₀ : Heap) (mg₀ mb : Str → Option Value) (Pl : Addr) : Prop where
  nb : h₀.Ns builtinsNs mb
  nl : h₀.NoLimit
  hP : builtinsNs ≠ Pl
  hC : cStatics ≠ Pl
  blt : ∀ x v, bltAll.lookup x = some v → mg₀ x = none ∧ mb x = some v
  low : sysModules < h₀.objs.size
theorem top_chain {Q : Flow → Shared → Prop} (B : Boot0 h₀ mg₀ mb Pl) (hh : A.handled = none) (X : Mo h₀ mg₀ c Pl mg₀ #[] [] s.heap)
    (k : ∀ s' mg ps fs T, Mo h₀ mg₀ c Pl mg ps fs s'.heap → G w T s'.heap → T.mg = mg → s'.os = s.os → s'.gens = s.gens → Q .next s') : wpAny (model P31 w) A (execs P31.main.body (envM c F)) Q E s := by
  have L := Lines.start
  have mz := fun x v e => (B.blt x v e).1
  have bz := fun x v e => (B.blt x v e).2
  refine @wpAny_execs_cons _ _ _ _ _ _ _ _ <| @Mo.str _ _ _ _ _ _ _ _ _ _ _ _ _ _ _ _ _ _ _ X (fun s0 t0 X o0 g0 => ?_) (by rfl) (by rfl) (by rfl) (by decide)
  refine @wpAny_execs_cons _ _ _ _ _ _ _ _ <| @Mo.str _ _ _ _ _ _ _ _ _ _ _ _ _ _ _ _ _ _ _ X (fun s1 t1 X o1 g1 => ?_) (by rfl) (by rfl) (by rfl) (by decide)
  refine @wpAny_execs_cons _ _ _ _ _ _ _ _ <| @Mo.def' _ _ _ _ _ _ _ _ _ _ _ _ _ _ _ _ _ _ _ X L (fun s2 a0 c0 P0 pm0 ps0 X L o2 g2 lq0 lr0 => ?_) (by exact fun _ => rfl) (by decide) (by rfl) (by rfl) (by rfl) (by rfl) (by rfl) (by decide) (by rfl)
  refine @wpAny_execs_cons _ _ _ _ _ _ _ _ <| @Mo.str _ _ _ _ _ _ _ _ _ _ _ _ _ _ _ _ _ _ _ X (fun s3 t3 X o3 g3 => ?_) (by rfl) (by rfl) (by rfl) (by decide)
  refine @wpAny_execs_cons _ _ _ _ _ _ _ _ <| @Mo.int _ _ _ _ _ _ _ _ _ _ _ _ _ _ _ _ _ _ _ X (fun s4 t4 X o4 g4 => ?_) (by rfl) (by rfl) (by rfl) (by decide)
  refine @wpAny_execs_cons _ _ _ _ _ _ _ _ <| @Mo.def' _ _ _ _ _ _ _ _ _ _ _ _ _ _ _ _ _ _ _ X L (fun s5 a1 c1 P1 pm1 ps1 X L o5 g5 lq1 lr1 => ?_) (by exact fun _ => rfl) (by decide) (by rfl) (by rfl) (by rfl) (by rfl) (by rfl) (by decide) (by rfl)
  refine @wpAny_execs_cons _ _ _ _ _ _ _ _ <| @Mo.def' _ _ _ _ _ _ _ _ _ _ _ _ _ _ _ _ _ _ _ X L (fun s6 a2 c2 P2 pm2 ps2 X L o6 g6 lq2 lr2 => ?_) (by exact fun _ => rfl) (by decide) (by rfl) (by rfl) (by rfl) (by rfl) (by rfl) (by decide) (by rfl)
  refine @wpAny_execs_cons _ _ _ _ _ _ _ _ <| @Mo.def' _ _ _ _ _ _ _ _ _ _ _ _ _ _ _ _ _ _ _ X L (fun s7 a3 c3 P3 pm3 ps3 X L o7 g7 lq3 lr3 => ?_) (by exact fun _ => rfl) (by decide) (by rfl) (by rfl) (by rfl) (by rfl) (by rfl) (by decide) (by rfl)
  refine @wpAny_execs_cons _ _ _ _ _ _ _ _ <| @Mo.def' _ _ _ _ _ _ _ _ _ _ _ _ _ _ _ _ _ _ _ X L (fun s8 a4 c4 P4 pm4 ps4 X L o8 g8 lq4 lr4 => ?_) (by exact fun _ => rfl) (by decide) (by rfl) (by rfl) (by rfl) (by rfl) (by rfl) (by decide) (by rfl)
  refine @wpAny_execs_cons _ _ _ _ _ _ _ _ <| @Mo.def' _ _ _ _ _ _ _ _ _ _ _ _ _ _ _ _ _ _ _ X L (fun s9 a5 c5 P5 pm5 ps5 X L o9 g9 lq5 lr5 => ?_) (by exact fun _ => rfl) (by decide) (by rfl) (by rfl) (by rfl) (by rfl) (by rfl) (by decide) (by rfl)
  refine @wpAny_execs_cons _ _ _ _ _ _ _ _ <| @Mo.def' _ _ _ _ _ _ _ _ _ _ _ _ _ _ _ _ _ _ _ X L (fun s10 a6 c6 P6 pm6 ps6 X L o10 g10 lq6 lr6 => ?_) (by exact fun _ => rfl) (by decide) (by rfl) (by rfl) (by rfl) (by rfl) (by rfl) (by decide) (by rfl)
  refine @wpAny_execs_cons _ _ _ _ _ _ _ _ <| @Mo.str _ _ _ _ _ _ _ _ _ _ _ _ _ _ _ _ _ _ _ X (fun s11 t11 X o11 g11 => ?_) (by rfl) (by rfl) (by rfl) (by decide)
  refine @wpAny_execs_cons _ _ _ _ _ _ _ _ <| @Mo.setAsg _ _ _ _ _ _ _ _ _ _ _ _ _ _ _ _ _ _ [173, 847, 6150, 6155, 6156, 6157, 8203, 8204, 8205, 8288, 65279] 65024 16 _ _ _ _ _ _ _ _ _ _ _ _ _ hh X B.nb B.hP (mz "set" _ rfl) (bz "set" _ rfl) (mz "list" _ rfl) (bz "list" _ rfl) (mz "range" _ rfl) (bz "range" _ rfl) (by rfl) (by decide) (by decide) (by decide) (by decide) (by decide) (fun s12 sb1 X o12 g12 => ?_) (by rfl) (by rfl) (by rfl) (by decide) (by rfl)
  refine @wpAny_execs_cons _ _ _ _ _ _ _ _ <| @Mo.def' _ _ _ _ _ _ _ _ _ _ _ _ _ _ _ _ _ _ _ X L (fun s13 a7 c7 P7 pm7 ps7 X L o13 g13 lq7 lr7 => ?_) (by exact fun _ => rfl) (by decide) (by rfl) (by rfl) (by rfl) (by rfl) (by rfl) (by decide) (by rfl)
  refine @wpAny_execs_cons _ _ _ _ _ _ _ _ <| @Mo.setAsg _ _ _ _ _ _ _ _ _ _ _ _ _ _ _ _ _ _ [917505] 917536 96 _ _ _ _ _ _ _ _ _ _ _ _ _ hh X B.nb B.hP (mz "set" _ rfl) (bz "set" _ rfl) (mz "list" _ rfl) (bz "list" _ rfl) (mz "range" _ rfl) (bz "range" _ rfl) (by rfl) (by decide) (by decide) (by decide) (by decide) (by decide) (fun s14 sc9 X o14 g14 => ?_) (by rfl) (by rfl) (by rfl) (by decide) (by rfl)
  refine @wpAny_execs_cons _ _ _ _ _ _ _ _ <| @Mo.def' _ _ _ _ _ _ _ _ _ _ _ _ _ _ _ _ _ _ _ X L (fun s15 a8 c8 P8 pm8 ps8 X L o15 g15 lq8 lr8 => ?_) (by exact fun _ => rfl) (by decide) (by rfl) (by rfl) (by rfl) (by rfl) (by rfl) (by decide) (by rfl)
  refine @wpAny_execs_cons _ _ _ _ _ _ _ _ <| @Mo.str _ _ _ _ _ _ _ _ _ _ _ _ _ _ _ _ _ _ _ X (fun s16 t16 X o16 g16 => ?_) (by rfl) (by rfl) (by rfl) (by decide)
  show wpAny _ _ (execs (P31.main.body.drop 17) _) _ _ _
  rw [← List.take_append_drop 50 (P31.main.body.drop 17)]
  refine Mo.ints ints_list ints_ok ints_nodup X fun mgI sI X oI gI hI3 hI4 => ?_
  rw [tail67]
  have hD : ∀ p ∈ dictTab, ∃ t, mgI p.2 = some (.int ((intTab.lookup p.2).getD 0) t) := fun p hp => hI4 (p.2, _) (List.contains_iff_mem.mp (List.all_eq_true.mp dict_ints p hp))
  refine @wpAny_execs_cons _ _ _ _ _ _ _ _ ?_
  obtain ⟨p', ks, vs, dp, pos, e67⟩ : ∃ p' ks vs dp pos, stAt 67 = .Assign [.Name "EXACT_TOKEN_TYPES" p'] (.Dict ks vs dp) pos := ⟨_, _, _, _, _, rfl⟩
  have hk := dict_keys
  have hv := dict_vals
  rw [e67] at hk hv ⊢
  refine Mo.dictAsg (w := w) dictTab X hk hv (fun p hp => let ⟨_, e⟩ := hD p hp; ⟨_, e⟩) dict_debug dict_len dict_nodup B.low fun s67 dk X o67 g67 htn => ?_
  refine @wpAny_execs_cons _ _ _ _ _ _ _ _ <| @Mo.def' _ _ _ _ _ _ _ _ _ _ _ _ _ _ _ _ _ _ _ X L (fun s68 a9 c9 P9 pm9 ps9 X L o68 g68 lq9 lr9 => ?_) (by exact fun _ => rfl) (by decide) (by rfl) (by rfl) (by rfl) (by rfl) (by rfl) (by decide) (by rfl)
  refine @wpAny_execs_cons _ _ _ _ _ _ _ _ <| @Mo.def' _ _ _ _ _ _ _ _ _ _ _ _ _ _ _ _ _ _ _ X L (fun s69 a10 c10 P10 pm10 ps10 X L o69 g69 lq10 lr10 => ?_) (by exact fun _ => rfl) (by decide) (by rfl) (by rfl) (by rfl) (by rfl) (by rfl) (by decide) (by rfl)
  refine @wpAny_execs_cons _ _ _ _ _ _ _ _ <| @Mo.def' _ _ _ _ _ _ _ _ _ _ _ _ _ _ _ _ _ _ _ X L (fun s70 a11 c11 P11 pm11 ps11 X L o70 g70 lq11 lr11 => ?_) (by exact fun _ => rfl) (by decide) (by rfl) (by rfl) (by rfl) (by rfl) (by rfl) (by decide) (by rfl)
  refine @wpAny_execs_cons _ _ _ _ _ _ _ _ <| @Mo.str _ _ _ _ _ _ _ _ _ _ _ _ _ _ _ _ _ _ _ X (fun s71 t71 X o71 g71 => ?_) (by rfl) (by rfl) (by rfl) (by decide)
  refine @wpAny_execs_cons _ _ _ _ _ _ _ _ <| @Mo.def' _ _ _ _ _ _ _ _ _ _ _ _ _ _ _ _ _ _ _ X L (fun s72 a12 c12 P12 pm12 ps12 X L o72 g72 lq12 lr12 => ?_) (by exact fun _ => rfl) (by decide) (by rfl) (by rfl) (by rfl) (by rfl) (by rfl) (by decide) (by rfl)
  refine @wpAny_execs_cons _ _ _ _ _ _ _ _ <| @Mo.def' _ _ _ _ _ _ _ _ _ _ _ _ _ _ _ _ _ _ _ X L (fun s73 a13 c13 P13 pm13 ps13 X L o73 g73 lq13 lr13 => ?_) (by exact fun _ => rfl) (by decide) (by rfl) (by rfl) (by rfl) (by rfl) (by rfl) (by decide) (by rfl)
  refine @wpAny_execs_cons _ _ _ _ _ _ _ _ <| @Mo.def' _ _ _ _ _ _ _ _ _ _ _ _ _ _ _ _ _ _ _ X L (fun s74 a14 c14 P14 pm14 ps14 X L o74 g74 lq14 lr14 => ?_) (by exact fun _ => rfl) (by decide) (by rfl) (by rfl) (by rfl) (by rfl) (by rfl) (by decide) (by rfl)
  refine @wpAny_execs_cons _ _ _ _ _ _ _ _ <| @Mo.def' _ _ _ _ _ _ _ _ _ _ _ _ _ _ _ _ _ _ _ X L (fun s75 a15 c15 P15 pm15 ps15 X L o75 g75 lq15 lr15 => ?_) (by exact fun _ => rfl) (by decide) (by rfl) (by rfl) (by rfl) (by rfl) (by rfl) (by decide) (by rfl)
  refine @wpAny_execs_cons _ _ _ _ _ _ _ _ <| @Mo.def' _ _ _ _ _ _ _ _ _ _ _ _ _ _ _ _ _ _ _ X L (fun s76 a16 c16 P16 pm16 ps16 X L o76 g76 lq16 lr16 => ?_) (by exact fun _ => rfl) (by decide) (by rfl) (by rfl) (by rfl) (by rfl) (by rfl) (by decide) (by rfl)
  refine @wpAny_execs_cons _ _ _ _ _ _ _ _ <| @Mo.def' _ _ _ _ _ _ _ _ _ _ _ _ _ _ _ _ _ _ _ X L (fun s77 a17 c17 P17 pm17 ps17 X L o77 g77 lq17 lr17 => ?_) (by exact fun _ => rfl) (by decide) (by rfl) (by rfl) (by rfl) (by rfl) (by rfl) (by decide) (by rfl)
  refine @wpAny_execs_cons _ _ _ _ _ _ _ _ <| @Mo.def' _ _ _ _ _ _ _ _ _ _ _ _ _ _ _ _ _ _ _ X L (fun s78 a18 c18 P18 pm18 ps18 X L o78 g78 lq18 lr18 => ?_) (by exact fun _ => rfl) (by decide) (by rfl) (by rfl) (by rfl) (by rfl) (by rfl) (by decide) (by rfl)
  refine @wpAny_execs_nil _ _ _ _ _ _ ?_
  obtain ⟨tN, eN⟩ := hI4 ("NT_OFFSET", 256) (by decide +kernel)
  obtain ⟨tE, eE⟩ := hI4 ("ENDMARKER", 0) (by decide +kernel)
  let T : Tops := { f := fun i => [a0, a1, a2, a3, a4, a5, a6, a7, a8, a9, a10, a11, a12, a13, a14, a15, a16, a17, a18].getD i 0, cd := fun i => [c0, c1, c2, c3, c4, c5, c6, c7, c8, c9, c10, c11, c12, c13, c14, c15, c16, c17, c18].getD i 0, pm := fun i => [pm0, pm1, pm2, pm3, pm4, pm5, pm6, pm7, pm8, pm9, pm10, pm11, pm12, pm13, pm14, pm15, pm16, pm17, pm18].getD i .none, b1 := sb1, c9 := sc9, tok := dk, p1 := P3, p2 := P4, tk := fun i => [t1, t4, tN, tE].getD i 0, mg := X.mgOf, mb := mb, tokF := valueAt (dictTab.map (valIn mgI)) }
  refine k s78 _ _ _ T X ?_ rfl ?_ ?_
  · have hfn : ∀ i, i < 19 → s78.heap.get? (T.f i) = some (fObj T i) ∧ CodeOk s78.heap (T.cd i) (fName (fAt i)) := by
      intro i hi
      match i, hi with
      | 0, _ => exact ⟨(X.facts _ (.tail _ (.tail _ (.tail _ (.tail _ (.tail _ (.tail _ (.tail _ (.tail _ (.tail _ (.tail _ (.tail _ (.tail _ (.tail _ (.tail _ (.tail _ (.tail _ (.tail _ (.tail _ (.tail _ (.tail _ (.tail _ (.head _))))))))))))))))))))))).2.1, (X.facts _ (.tail _ (.tail _ (.tail _ (.tail _ (.tail _ (.tail _ (.tail _ (.tail _ (.tail _ (.tail _ (.tail _ (.tail _ (.tail _ (.tail _ (.tail _ (.tail _ (.tail _ (.tail _ (.tail _ (.tail _ (.tail _ (.head _))))))))))))))))))))))).2.2.1⟩
      | 1, _ => exact ⟨(X.facts _ (.tail _ (.tail _ (.tail _ (.tail _ (.tail _ (.tail _ (.tail _ (.tail _ (.tail _ (.tail _ (.tail _ (.tail _ (.tail _ (.tail _ (.tail _ (.tail _ (.tail _ (.tail _ (.tail _ (.tail _ (.head _)))))))))))))))))))))).2.1, (X.facts _ (.tail _ (.tail _ (.tail _ (.tail _ (.tail _ (.tail _ (.tail _ (.tail _ (.tail _ (.tail _ (.tail _ (.tail _ (.tail _ (.tail _ (.tail _ (.tail _ (.tail _ (.tail _ (.tail _ (.tail _ (.head _)))))))))))))))))))))).2.2.1⟩
      | 2, _ => exact ⟨(X.facts _ (.tail _ (.tail _ (.tail _ (.tail _ (.tail _ (.tail _ (.tail _ (.tail _ (.tail _ (.tail _ (.tail _ (.tail _ (.tail _ (.tail _ (.tail _ (.tail _ (.tail _ (.tail _ (.tail _ (.head _))))))))))))))))))))).2.1, (X.facts _ (.tail _ (.tail _ (.tail _ (.tail _ (.tail _ (.tail _ (.tail _ (.tail _ (.tail _ (.tail _ (.tail _ (.tail _ (.tail _ (.tail _ (.tail _ (.tail _ (.tail _ (.tail _ (.tail _ (.head _))))))))))))))))))))).2.2.1⟩
      | 3, _ => exact ⟨(X.facts _ (.tail _ (.tail _ (.tail _ (.tail _ (.tail _ (.tail _ (.tail _ (.tail _ (.tail _ (.tail _ (.tail _ (.tail _ (.tail _ (.tail _ (.tail _ (.tail _ (.tail _ (.tail _ (.head _)))))))))))))))))))).2.1, (X.facts _ (.tail _ (.tail _ (.tail _ (.tail _ (.tail _ (.tail _ (.tail _ (.tail _ (.tail _ (.tail _ (.tail _ (.tail _ (.tail _ (.tail _ (.tail _ (.tail _ (.tail _ (.tail _ (.head _)))))))))))))))))))).2.2.1⟩
      | 4, _ => exact ⟨(X.facts _ (.tail _ (.tail _ (.tail _ (.tail _ (.tail _ (.tail _ (.tail _ (.tail _ (.tail _ (.tail _ (.tail _ (.tail _ (.tail _ (.tail _ (.tail _ (.tail _ (.tail _ (.head _))))))))))))))))))).2.1, (X.facts _ (.tail _ (.tail _ (.tail _ (.tail _ (.tail _ (.tail _ (.tail _ (.tail _ (.tail _ (.tail _ (.tail _ (.tail _ (.tail _ (.tail _ (.tail _ (.tail _ (.tail _ (.head _))))))))))))))))))).2.2.1⟩
      | 5, _ => exact ⟨(X.facts _ (.tail _ (.tail _ (.tail _ (.tail _ (.tail _ (.tail _ (.tail _ (.tail _ (.tail _ (.tail _ (.tail _ (.tail _ (.tail _ (.tail _ (.tail _ (.tail _ (.head _)))))))))))))))))).2.1, (X.facts _ (.tail _ (.tail _ (.tail _ (.tail _ (.tail _ (.tail _ (.tail _ (.tail _ (.tail _ (.tail _ (.tail _ (.tail _ (.tail _ (.tail _ (.tail _ (.tail _ (.head _)))))))))))))))))).2.2.1⟩
      | 6, _ => exact ⟨(X.facts _ (.tail _ (.tail _ (.tail _ (.tail _ (.tail _ (.tail _ (.tail _ (.tail _ (.tail _ (.tail _ (.tail _ (.tail _ (.tail _ (.tail _ (.tail _ (.head _))))))))))))))))).2.1, (X.facts _ (.tail _ (.tail _ (.tail _ (.tail _ (.tail _ (.tail _ (.tail _ (.tail _ (.tail _ (.tail _ (.tail _ (.tail _ (.tail _ (.tail _ (.tail _ (.head _))))))))))))))))).2.2.1⟩
      | 7, _ => exact ⟨(X.facts _ (.tail _ (.tail _ (.tail _ (.tail _ (.tail _ (.tail _ (.tail _ (.tail _ (.tail _ (.tail _ (.tail _ (.tail _ (.tail _ (.head _))))))))))))))).2.1, (X.facts _ (.tail _ (.tail _ (.tail _ (.tail _ (.tail _ (.tail _ (.tail _ (.tail _ (.tail _ (.tail _ (.tail _ (.tail _ (.tail _ (.head _))))))))))))))).2.2.1⟩
      | 8, _ => exact ⟨(X.facts _ (.tail _ (.tail _ (.tail _ (.tail _ (.tail _ (.tail _ (.tail _ (.tail _ (.tail _ (.tail _ (.tail _ (.head _))))))))))))).2.1, (X.facts _ (.tail _ (.tail _ (.tail _ (.tail _ (.tail _ (.tail _ (.tail _ (.tail _ (.tail _ (.tail _ (.tail _ (.head _))))))))))))).2.2.1⟩
      | 9, _ => exact ⟨(X.facts _ (.tail _ (.tail _ (.tail _ (.tail _ (.tail _ (.tail _ (.tail _ (.tail _ (.tail _ (.head _))))))))))).2.1, (X.facts _ (.tail _ (.tail _ (.tail _ (.tail _ (.tail _ (.tail _ (.tail _ (.tail _ (.tail _ (.head _))))))))))).2.2.1⟩
      | 10, _ => exact ⟨(X.facts _ (.tail _ (.tail _ (.tail _ (.tail _ (.tail _ (.tail _ (.tail _ (.tail _ (.head _)))))))))).2.1, (X.facts _ (.tail _ (.tail _ (.tail _ (.tail _ (.tail _ (.tail _ (.tail _ (.tail _ (.head _)))))))))).2.2.1⟩
      | 11, _ => exact ⟨(X.facts _ (.tail _ (.tail _ (.tail _ (.tail _ (.tail _ (.tail _ (.tail _ (.head _))))))))).2.1, (X.facts _ (.tail _ (.tail _ (.tail _ (.tail _ (.tail _ (.tail _ (.tail _ (.head _))))))))).2.2.1⟩
      | 12, _ => exact ⟨(X.facts _ (.tail _ (.tail _ (.tail _ (.tail _ (.tail _ (.tail _ (.head _)))))))).2.1, (X.facts _ (.tail _ (.tail _ (.tail _ (.tail _ (.tail _ (.tail _ (.head _)))))))).2.2.1⟩
      | 13, _ => exact ⟨(X.facts _ (.tail _ (.tail _ (.tail _ (.tail _ (.tail _ (.head _))))))).2.1, (X.facts _ (.tail _ (.tail _ (.tail _ (.tail _ (.tail _ (.head _))))))).2.2.1⟩
      | 14, _ => exact ⟨(X.facts _ (.tail _ (.tail _ (.tail _ (.tail _ (.head _)))))).2.1, (X.facts _ (.tail _ (.tail _ (.tail _ (.tail _ (.head _)))))).2.2.1⟩
      | 15, _ => exact ⟨(X.facts _ (.tail _ (.tail _ (.tail _ (.head _))))).2.1, (X.facts _ (.tail _ (.tail _ (.tail _ (.head _))))).2.2.1⟩
      | 16, _ => exact ⟨(X.facts _ (.tail _ (.tail _ (.head _)))).2.1, (X.facts _ (.tail _ (.tail _ (.head _)))).2.2.1⟩
      | 17, _ => exact ⟨(X.facts _ (.tail _ (.head _))).2.1, (X.facts _ (.tail _ (.head _))).2.2.1⟩
      | 18, _ => exact ⟨(X.facts _ (.head _)).2.1, (X.facts _ (.head _)).2.2.1⟩
      | n + 19, h => exact absurd h (by lia)
    have hglob : ∀ p ∈ globTab T, T.mg p.1 = some p.2 := by
      refine List.forall_mem_cons.mpr ⟨(hI3 "_ellipsis_match" (by decide +kernel)).trans rfl, ?_⟩
      refine List.forall_mem_cons.mpr ⟨(hI3 "_div2n1n" (by decide +kernel)).trans rfl, ?_⟩
      refine List.forall_mem_cons.mpr ⟨(hI3 "_div3n2n" (by decide +kernel)).trans rfl, ?_⟩
      refine List.forall_mem_cons.mpr ⟨(hI3 "_int2digits" (by decide +kernel)).trans rfl, ?_⟩
      refine List.forall_mem_cons.mpr ⟨(hI3 "_digits2int" (by decide +kernel)).trans rfl, ?_⟩
      refine List.forall_mem_cons.mpr ⟨(hI3 "_divmod_pos" (by decide +kernel)).trans rfl, ?_⟩
      refine List.forall_mem_cons.mpr ⟨(hI3 "int_divmod" (by decide +kernel)).trans rfl, ?_⟩
      refine List.forall_mem_cons.mpr ⟨(hI3 "in_table_b1" (by decide +kernel)).trans rfl, ?_⟩
      refine List.forall_mem_cons.mpr ⟨(hI3 "in_table_c9" (by decide +kernel)).trans rfl, ?_⟩
      refine List.forall_mem_cons.mpr ⟨rfl, ?_⟩
      refine List.forall_mem_cons.mpr ⟨rfl, ?_⟩
      refine List.forall_mem_cons.mpr ⟨rfl, ?_⟩
      refine List.forall_mem_cons.mpr ⟨rfl, ?_⟩
      refine List.forall_mem_cons.mpr ⟨rfl, ?_⟩
      refine List.forall_mem_cons.mpr ⟨rfl, ?_⟩
      refine List.forall_mem_cons.mpr ⟨rfl, ?_⟩
      refine List.forall_mem_cons.mpr ⟨rfl, ?_⟩
      refine List.forall_mem_cons.mpr ⟨rfl, ?_⟩
      refine List.forall_mem_cons.mpr ⟨rfl, ?_⟩
      refine List.forall_mem_cons.mpr ⟨(hI3 "b1_set" (by decide +kernel)).trans rfl, ?_⟩
      refine List.forall_mem_cons.mpr ⟨(hI3 "c9_set" (by decide +kernel)).trans rfl, ?_⟩
      refine List.forall_mem_cons.mpr ⟨rfl, ?_⟩
      refine List.forall_mem_cons.mpr ⟨(hI3 "ELLIPSIS_MARKER" (by decide +kernel)).trans rfl, ?_⟩
      refine List.forall_mem_cons.mpr ⟨(hI3 "_DIV_LIMIT" (by decide +kernel)).trans rfl, ?_⟩
      refine List.forall_mem_cons.mpr ⟨eN, ?_⟩
      refine List.forall_mem_cons.mpr ⟨eE, ?_⟩
      exact fun p hp => nomatch hp
    refine ⟨⟨lookup_all hglob, fun x v e => ?_, fun x q e => ?_, fun x e => ?_, ?_, ?_, htn⟩, X.main.g, X.nb B.nb B.hP, ?_, (let ⟨bm, o, e1, e2, _, _, e5, e6, e7, e8⟩ := X.main.bmod; ⟨bm, o, e1, e2, e5, e6, e7, e8⟩), hfn, ?_, ?_, (X.facts _ (.tail _ (.tail _ (.tail _ (.tail _ (.tail _ (.tail _ (.tail _ (.tail _ (.tail _ (.tail _ (.head _)))))))))))).2, ?_, ?_⟩
    · have hm := lookup_mem e
      have h1 := List.all_eq_true.mp blt_free _ hm
      have h2 := B.blt x v (by unfold bltAll; rw [List.lookup_append, e]; rfl)
      exact ⟨X.none' (by simpa using h1) h2.1, h2.2⟩
    · rw [tok_dict] at e; exact (tok_value hD x).1 q e
    · rw [tok_dict] at e; exact (tok_value hD x).2 e
    · obtain ⟨bm, o, e, _⟩ := X.main.bmod; exact ⟨bm, e⟩
    · exact Nat.ne_of_lt (Nat.lt_of_lt_of_le lr3 lq4)
    · obtain ⟨mc, hc, r⟩ := B.nl
      obtain ⟨o, es, ep, ho, r2⟩ := hc
      exact ⟨mc, ⟨o, es, ep, X.keep _ _ B.hC (by decide) ho, r2⟩, r⟩
    · have := (X.facts _ (.tail _ (.tail _ (.tail _ (.tail _ (.tail _ (.tail _ (.tail _ (.tail _ (.tail _ (.tail _ (.tail _ (.tail _ (.tail _ (.tail _ (.head _)))))))))))))))).2
      rw [b1_eq] at this; exact this
    · have := (X.facts _ (.tail _ (.tail _ (.tail _ (.tail _ (.tail _ (.tail _ (.tail _ (.tail _ (.tail _ (.tail _ (.tail _ (.tail _ (.head _)))))))))))))).2
      rw [c9_eq] at this; exact this
    · exact ⟨(X.facts _ (.tail _ (.tail _ (.tail _ (.tail _ (.tail _ (.tail _ (.tail _ (.tail _ (.tail _ (.tail _ (.tail _ (.tail _ (.tail _ (.tail _ (.tail _ (.tail _ (.tail _ (.tail _ (.head _)))))))))))))))))))).2.2.2.1, #[], (X.facts _ (.tail _ (.tail _ (.tail _ (.tail _ (.tail _ (.tail _ (.tail _ (.tail _ (.tail _ (.tail _ (.tail _ (.tail _ (.tail _ (.tail _ (.tail _ (.tail _ (.tail _ (.tail _ (.head _)))))))))))))))))))).2.2.2.2, .inl rfl⟩
    · exact ⟨(X.facts _ (.tail _ (.tail _ (.tail _ (.tail _ (.tail _ (.tail _ (.tail _ (.tail _ (.tail _ (.tail _ (.tail _ (.tail _ (.tail _ (.tail _ (.tail _ (.tail _ (.tail _ (.head _))))))))))))))))))).2.2.2.1, #[], (X.facts _ (.tail _ (.tail _ (.tail _ (.tail _ (.tail _ (.tail _ (.tail _ (.tail _ (.tail _ (.tail _ (.tail _ (.tail _ (.tail _ (.tail _ (.tail _ (.tail _ (.tail _ (.head _))))))))))))))))))).2.2.2.2, .inl rfl⟩
  · simp only [o78, o77, o76, o75, o74, o73, o72, o71, o70, o69, o68, o67, oI, o16, o15, o14, o13, o12, o11, o10, o9, o8, o7, o6, o5, o4, o3, o2, o1, o0]
  · simp only [g78, g77, g76, g75, g74, g73, g72, g71, g70, g69, g68, g67, gI, g16, g15, g14, g13, g12, g11, g10, g9, g8, g7, g6, g5, g4, g3, g2, g1, g0]
end
end Mine
namespace Mine
open PySem PySem.W PySem.Calls PyProof.Rows
theorem boot_blt (P : Params) : (boot_heap P).bltView = bltViewBooted := by kernel_rfl
theorem boot_g (P : Params) : (boot_heap P).isNs mainGlobals = true := by kernel_rfl
theorem boot_b (P : Params) : (boot_heap P).isNs builtinsNs = true := by kernel_rfl
theorem boot_c (P : Params) : (boot_heap P).isNs cStatics = true := by kernel_rfl
theorem boot_ck (P : Params) : (boot_heap P).nsKeys cStatics = [] := by kernel_rfl
theorem boot_bm (P : Params) : (boot_heap P).bmainOk = true := by kernel_rfl
theorem boot_gk (P : Params) : ((boot_heap P).nsKeys mainGlobals).all (fun k => startupNames.contains k) = true := by kernel_rfl
theorem boot_all (P : Params) : bltAll.all (fun p => ((boot_heap P).nsMap mainGlobals p.1).isNone && decide ((boot_heap P).nsMap builtinsNs p.1 = some p.2)) = true := by kernel_rfl
theorem boot_size (P : Params) : Nat.ble 4 (boot_heap P).objs.size = true := by kernel_rfl
theorem open_prog : opening P31 = plainProg P31.main.scope.names := by rfl
theorem open_fence (s : Shared) : fenceModules? P31 s = some s := by rfl
theorem open_mods : importedModules P31.main.body = [] := by rfl
theorem open_behind : behindTheImports P31 = P31.main.body := by rfl
theorem static_none {h : Heap} {key : Str} (hc : h.isNs cStatics = true) (hk : h.nsKeys cStatics = []) : staticOf h key = none := by
  rw [Pin.staticOf_eq hc]
  exact Heap.nsMap_none (by rw [hk]; simp)
/-- the law's own function, as its def says -/
theorem law_def {w : World} {T : Tops} {h : Heap} (g : G w T h) : isTheDefsW P31 h "law" := by
  have h1 := (g.fn 18 (by decide)).1
  have h2 : T.mg "law" = some (.ref (T.f 18)) := g.ok.glob _ _ rfl
  exact ⟨T.f 18, _, _, fParams (fAt 18), fBody (fAt 18), fScope (fAt 18), (Claim2Try.globalOf_of_ns g.ns _).trans h2, h1, rfl, by rfl, rfl, rfl, rfl, rfl, rfl, rfl, rfl, rfl, .inl ⟨rfl, rfl⟩, [], rfl, .inl ⟨rfl, rfl⟩⟩
theorem boot0 (P : Params) {Pl : Addr} {h₀ : Heap} (hP : (boot_heap P).objs.size ≤ Pl) (hk : ∀ b o, (boot_heap P).get? b = some o → h₀.get? b = some o) (hs : (boot_heap P).objs.size ≤ h₀.objs.size) :
    Boot0 h₀ ((boot_heap P).nsMap mainGlobals) ((boot_heap P).nsMap builtinsNs) Pl := by
  have h4 : 4 ≤ (boot_heap P).objs.size := Nat.le_of_ble_eq_true (boot_size P)
  refine ⟨(Heap.Ns.of_isNs (boot_b P)).keeps hk, ⟨_, (Heap.Ns.of_isNs (boot_c P)).keeps hk, Heap.nsMap_none (by rw [boot_ck]; simp)⟩, ?_, ?_, fun x v e => ?_, ?_⟩
  · exact Nat.ne_of_lt (Nat.lt_of_lt_of_le (by show 0 < 4; decide) (Nat.le_trans h4 hP))
  · exact Nat.ne_of_lt (Nat.lt_of_lt_of_le (by show 2 < 4; decide) (Nat.le_trans h4 hP))
  · have := List.all_eq_true.mp (boot_all P) _ (lookup_mem e)
    rw [Bool.and_eq_true, Option.isNone_iff_eq_none, decide_eq_true_eq] at this
    exact this
  · exact Nat.lt_of_lt_of_le (by show 1 < 4; decide) (Nat.le_trans h4 hs)
theorem mo_start (P : Params) {c Pl : Addr} {h₀ : Heap} (hc : (boot_heap P).objs.size ≤ c) (hP : (boot_heap P).objs.size ≤ Pl) (hk : ∀ b o, (boot_heap P).get? b = some o → h₀.get? b = some o) (hs : (boot_heap P).objs.size ≤ h₀.objs.size) (code : h₀.IsCode c Pl #[]) :
    Mo h₀ ((boot_heap P).nsMap mainGlobals) c Pl ((boot_heap P).nsMap mainGlobals) #[] [] h₀ := by
  have h4 : 4 ≤ (boot_heap P).objs.size := Nat.le_of_ble_eq_true (boot_size P)
  have l3 : mainGlobals < (boot_heap P).objs.size := Nat.lt_of_lt_of_le (by show 3 < 4; decide) h4
  obtain ⟨bm, ob, e1, e2, e3, e4, e5, e6⟩ := Heap.bmainOk_spec (boot_bm P)
  have hPl : Pl < h₀.objs.size := by obtain ⟨_, _, _, _, _, _, _, _, _, op, _, _, _, _, _, _, _, e, _⟩ := code; exact Heap.lt_size e
  refine ⟨⟨(Heap.Ns.of_isNs (boot_g P)).keeps hk, code, ⟨Nat.lt_of_lt_of_le l3 hc, Nat.lt_of_lt_of_le l3 hP⟩, ⟨bm, ob, e1, e2, ?_, Nat.ne_of_lt (Nat.lt_of_lt_of_le (Heap.lt_size e3) hP), hk _ _ e3, e4, e5, e6⟩⟩, fun b o _ _ e => e, fun F hF => (nomatch hF), Nat.le_refl _, hPl, Nat.lt_of_lt_of_le l3 hs, fun x v e => .inr e, fun _ _ => rfl⟩
  rintro rfl
  obtain ⟨o, es, ep, q1, q2, _⟩ := Heap.Ns.of_isNs (boot_g P)
  rw [e3] at q1
  cases q1
  rw [e6] at q2
  cases q2
/-- what the run of the top leaves -/
noncomputable def TopEnd (w : World) (os : OsState) (s' : Shared) : Prop :=
  s'.os = os ∧ ∃ T mg ps fs h₀ c Pl, Mo h₀ ((boot_heap w.params).nsMap mainGlobals) c Pl mg ps fs s'.heap ∧ G w T s'.heap ∧ T.mg = mg ∧ (∀ b o, (boot_heap w.params).get? b = some o → h₀.get? b = some o) ∧ (boot_heap w.params).objs.size ≤ Pl
theorem top_walk (w : World) (os : OsState) (dr : Drawn) (tk : Tok) : wpAny (model P31 w) callerA (topStub P31).cur (fun fin s' => ∃ f, fin = .done f ∧ TopEnd w os s' ∧ s'.gens = #[]) (fun _ _ => False) ⟨boot_heap w.params, #[], dr, tk, os⟩ := by
  unfold topStub
  refine @wpAny_bind _ _ _ _ _ _ _ _ _ (@wpAny_moduleCode _ _ _ _ _ _ fun c Pl h' tk hk hc hP hcode => ?_)
  have hk2 : ∀ (x : Obj) b o, (boot_heap w.params).get? b = some o → (h'.push x).get? b = some o := fun x b o e => Heap.get?_push_of_some _ (hk b o e)
  have hgr : (boot_heap w.params).objs.size ≤ h'.objs.size := by
    obtain ⟨o, _, _, _, _, _, _, _, _, _, e, _⟩ := hcode
    exact Nat.le_trans hc (Nat.le_of_lt (Heap.lt_size e))
  refine @wpAny_bind _ _ _ _ _ _ _ _ _ ?_
  unfold newBodyFrame
  refine @wpAny_bind _ _ _ _ _ _ _ _ _ (@wpAny_nsGet _ _ _ _ _ _ _ _ ((Heap.Ns.of_isNs (boot_g w.params)).keeps hk) ?_)
  refine @wpAny_alloc _ _ _ _ _ _ ?_
  have hgr2 : ∀ x : Obj, (boot_heap w.params).objs.size ≤ (h'.push x).objs.size := fun x => by
    show _ ≤ (h'.objs.push x).size
    rw [Array.size_push]
    exact Nat.le_succ_of_le hgr
  refine @wpAny_bind _ _ _ _ _ _ _ _ _ (@wpAny_run _ _ _ _ _ _ _ ((codeAny_body rfl rfl ?_)) (by intro x; cases x))
  refine @top_chain _ _ _ _ _ _ _ _ _ _ _ (boot0 w.params hP (hk2 _) (hgr2 _)) rfl (mo_start w.params hc hP (hk2 _) (hgr2 _) (hcode.keeps fun b o e => Heap.get?_push_of_some _ e)) fun s' mg ps fs T X g hT e1 e2 => ?_
  exact @wpAny_pure _ _ _ _ _ _ _ ⟨_, rfl, ⟨e1, T, mg, ps, fs, _, c, Pl, X, g, hT, hk2 _, hP⟩, e2⟩
theorem top_ran (w : World) : (∃ s, AfterRun (opening P31) w s) ∧ ∀ s, AfterRun (opening P31) w s → ∃ s₀, fenceModules? P31 s = some s₀ ∧ s₀.gens = #[] ∧ ∃ s₁, TopRan P31 w s₀ s₁ ∧ s₁.asleep ∧ s₁.gens = #[] ∧ s₁.heap.isNs mainGlobals = true ∧ ∃ T, G w T s₁.heap := by
  have h := boot_open (p := P31) (N := 600) open_prog rfl open_fence w
  rw [← table_eq_tree] at h
  obtain ⟨s₀, h2, e⟩ := Option.map_eq_some_iff.mp h
  obtain ⟨s, h4, h5⟩ := Option.bind_eq_some_iff.mp h2
  have A := AfterImport.of_importEnds h4
  refine ⟨⟨s, A⟩, fun s' hs' => ?_⟩
  obtain rfl := AfterImport.unique hs' A
  have z : s₀.asleep := Shared.asleep_of_life (fence_lifeW h5) A.life
  obtain ⟨heap, gens, drawn, toks, os⟩ := s₀
  simp only [Prod.mk.injEq] at e
  obtain ⟨rfl, rfl, rfl, rfl⟩ := e
  obtain ⟨s₁, s₂, hrun, hlife, hheap, hos, hgens, hend⟩ := top_runs z (@top_walk w os _ _)
  obtain ⟨eos, T, mg, ps, fs, h₀, c, Pl, X, g, hT, hk, hP⟩ := hend
  rw [← hheap] at X g
  have keepB : ∀ b o, (boot_heap w.params).get? b = some o → b ≠ mainGlobals → s₁.heap.get? b = some o := fun b o e hb =>
    X.keep b o (Nat.ne_of_lt (Nat.lt_of_lt_of_le (Heap.lt_size e) hP)) hb (hk b o e)
  have isN : ∀ {a : Addr} {m : Str → Option Value}, s₁.heap.Ns a m → s₁.heap.isNs a = true := fun {a m} hn => by
    obtain ⟨o, es, ep, ho, hd, hs, _⟩ := hn
    unfold Heap.isNs
    rw [ho]
    show (match o.data with | .dict es _ => _ | _ => false) = true
    rw [hd]
    rw [Array.all_eq_true_iff_forall_mem]
    intro x hx
    obtain ⟨n, t, q⟩ := hs x hx
    rw [q]
  have hstat : ∀ key, staticOf s₁.heap key = none ∧ staticOf (boot_heap w.params) key = none := fun key => by
    have h0 := static_none (key := key) (boot_c w.params) (boot_ck w.params)
    refine ⟨?_, h0⟩
    obtain ⟨o, es, ep, ho, _⟩ := Heap.Ns.of_isNs (boot_c w.params)
    have h1 := keepB _ _ ho (by decide)
    unfold staticOf at h0 ⊢
    rw [h1]
    rw [ho] at h0
    exact h0
  have hbltin : ∀ name : Str, builtinOf s₁.heap name = builtinOf (boot_heap w.params) name := fun name => by
    obtain ⟨o, es, ep, ho, _⟩ := Heap.Ns.of_isNs (boot_b w.params)
    have h1 := keepB _ _ ho (by decide)
    unfold builtinOf
    rw [h1, ho]
  refine ⟨_, h5, rfl, s₁, ⟨hrun, hlife, Shared.rest_eq (hos.trans eos), fun b o e hn => keepB b o e fun q => hn (.inl q), fun key v e => ?_, fun key => .inl ((hstat key).1.trans (hstat key).2.symm), Pin.keysAreStrs_of (isN X.main.g), fun x hx => ?_, ?_, ?_, fun x v e => ?_, fun x hx => ?_⟩, Shared.asleep_of_life hlife z, hgens, isN X.main.g, T, g⟩
  · rw [(hstat key).1] at e; cases e
  · rw [hbltin]
    exact (Pin.builtinOf_eq (boot_b w.params) x).trans (Heap.of_bltView (boot_b w.params) (boot_blt w.params) x hx)
  · obtain ⟨bm, o, e1, e2, _, _, e5, e6, e7, e8⟩ := X.main.bmod
    exact ⟨bm, o, (Claim2Try.globalOf_of_ns X.main.g _).trans e1, e5, e6, e7⟩
  · rw [hgens]; intro gg hgg; simp at hgg
  · rw [Claim2Try.globalOf_of_ns X.main.g] at e
    rcases X.oth x v e with q | q
    · exact .inr q
    · left
      by_cases hk : x ∈ (boot_heap w.params).nsKeys mainGlobals
      · exact List.contains_iff_mem.mp (List.all_eq_true.mp (boot_gk w.params) x hk)
      · rw [Heap.nsMap_none hk] at q; cases q
  · rw [Claim2Try.globalOf_of_ns X.main.g, X.laid x hx]
    exact (Pin.globalOf_eq (boot_g w.params) x).symm
end Mine
namespace Mine
open PySem PySem.W PySem.Calls PyProof.Rows
theorem reads_ints {R : WRecords} {cl : Str → Option Addr} {h : Heap} : ∀ {ns : List Int} {vs : List Value} {as : List Addr}, ReadsAllW R cl h vs (ns.map WData.int) as → IntsAre vs ns
  | [], vs, as, x => by cases x; exact .nil
  | n :: ns, vs, as, x => by
    rw [List.map_cons] at x
    cases x with
    | cons r1 r2 => cases r1; exact .cons _ _ (reads_ints r2)
theorem grow_old {w : World} {T : Tops} {h h' : Heap} (g : G w T h) (a : Grow T h h') : OldK h h' := by
  have tabs : ∀ {c P : Addr} {l k : Nat} {q : Str}, Tab h c P l k q → isCodeTable h P := fun {c P l k q} x => by
    obtain ⟨⟨o, vs, file, tf, flags, tg, inF, text, tt, e, hc, hd, h11, r⟩, _⟩ := x
    exact ⟨c, o, vs, e, hc, hd, h11⟩
  refine ⟨fun b o e => ?_, fun b o e => a.there e⟩
  rcases a b o e with e1 | ⟨hp, vs, more, rfl, e1⟩
  · exact .inl e1
  · refine .inr (.inl ⟨?_, rfl, vs, more, rfl, e1⟩)
    rcases hp with rfl | rfl
    · exact tabs g.t1
    · exact tabs g.t2
noncomputable abbrev R31 := PySem.Challenge.rw_uc0031_01.row
theorem law_open (hw : R31.toRowW.promised) : R31.toRowW.claim.HoldsOpenBy (callStub R31.name) (if R31.pinned then [R31.name] else []) R31.keeps R31.writes := by
  refine ⟨⟨⟨rfl, rfl, rfl, rfl, rfl, by decide +kernel⟩, by decide +kernel, rfl⟩, hw.witness, fun w => ⟨(top_ran w).1, fun s' hs' => ?_⟩⟩
  refine @goal_hide _ fun GG hGG => ?_
  obtain ⟨s₀, h5, hg0, s, hT, hz, hgens, hg, T, g⟩ := (top_ran w).2 s' hs'
  refine hGG ?_
  clear hGG
  refine ⟨s₀, h5, hg0, s, hT, fun n hn => ?_, fun x hx => (nomatch hx), fun x hx => (nomatch hx), ?_⟩
  · obtain rfl : n = R31.name := List.mem_singleton.mp hn
    exact law_def g
  · refine ClaimW.callFrom_of_specG (c := R31.toRowW.claim) hz hgens fun args hpre hlay ord hord => ?_
    refine @goal_hide _ fun GG hGG => ?_
    obtain ⟨⟨vs, s₁⟩, hlaid⟩ := Option.isSome_iff_exists.mp (layAllW_isSome (R := []) (cl := classAt s.heap) (P := w.params) (ord := ord) (fun c hc => (nomatch hc)) args R31.args s (pre_splitW (r := R31.toRowW) hpre).1)
    have keeps := layAllW_keeps _ _ _ hlaid
    have hal := layAllW_rest _ _ _ hlaid
    obtain ⟨as, hrd, hin, hold⟩ := reads_layAllW hord _ _ _ hlaid hlay s₁.heap (fun _ _ e => e)
    have L : Laid [] w s s₁ args vs as := ⟨⟨ord, hord, hlaid⟩, hrd, hin, hold, keeps, hal.1.trans hgens, hal.2.2.1⟩
    obtain ⟨hsh, hpr⟩ := pre_splitW (r := R31.toRowW) hpre
    obtain ⟨d, r, rfl, hd, hr⟩ := hasAllW_cons hsh
    obtain rfl := hasAllW_nil hr
    obtain ⟨xs, rfl, hx⟩ := hasW_list hd
    obtain ⟨ns, rfl⟩ := items_int hx
    have hlen : ns.length ≤ 63 := by
      by_cases hlt : (63 : Int) < ((ns.map WData.int).length : Int)
      · exfalso
        have e : R31.toRowW.pre.holds R31.toRowW.records { args := [WData.list (ns.map WData.int)] } = (match (match (some (WData.bool (!decide ((63 : Int) < ((ns.map WData.int).length : Int))))) with
            | some (.bool false) => some (WData.bool false)
            | some (.bool true) => some (.bool true)
            | _ => none) with
          | some (.bool true) => true
          | _ => false) := by rfl
        rw [e, decide_eq_true hlt] at hpr
        cases hpr
      · rw [List.length_map] at hlt; omega
    cases hrd with
    | cons r1 r2 =>
      cases r2
      cases r1 with
      | list ho hcl hdat hitems =>
        rename_i a o vs n as
        refine hGG ⟨_, s₁, hlaid, ?_⟩
        clear hGG
        have g₁ : G w T s₁.heap := g.keeps keeps
        have hf : T.mg R31.name = some (.ref (T.f 18)) := g.ok.glob _ _ rfl
        refine @wpAny_bind _ _ _ _ _ _ _ _ _ (@wpAny_nsGet _ _ _ _ _ _ _ _ g₁.ns ?_)
        rw [hf]
        refine @wpAny_bind _ _ _ _ _ _ _ _ _ ?_
        refine @wpAny_mono _ _ _ _ _ _ _ _ _ (s_law g₁ (by decide) rfl (by decide) ho ⟨hcl, n, hdat⟩ (reads_ints hitems) hlen (Q := fun v s' => v = .bool true ∧ Later w T s₁ s') fun s' l => ⟨rfl, l⟩) (fun v s' hv => ?_) fun e s' x => x.elim
        obtain ⟨rfl, l⟩ := hv
        refine @wpAny_pure _ _ _ _ _ _ _ ⟨_, rfl, ?_⟩
        have gd : GoodWG R31.toRowW.claim (classAt s.heap) (ExcName.means s.heap) [WData.list (ns.map WData.int)] s₁ (.ok (.ret (.bool true))) s' :=
          ⟨.inl ⟨.bool true, .bool true, [], rfl, raisesW_false (r := R31.toRowW) (fun ct hct => nomatch hct), ReadsW.bool true, postW_of (r := R31.toRowW) (X := true) (by rfl) (congrArg (fun b => some (WData.bool b)) (by decide +kernel : W.same (.bool true) (.bool true) = true)) rfl, fun _ => ⟨List.nodup_nil, nofun⟩⟩, grow_old g₁ l.gr, l.os, .of_eq (l.gens.trans L.gens)⟩
        have z := gd.laid (c := R31.toRowW.claim) rfl rfl (ident_freeW rfl rfl rfl) L
        exact ⟨z.1, z.2.1, z.2.2, fun q => nomatch q⟩
noncomputable abbrev LL := PySem.Challenge.rw_uc0031_01
theorem and_tt {a b : Bool} (x : a = true) (y : b = true) : (a && b) = true := by rw [x, y]; rfl
theorem names_resolve : namesResolve R31.prog = true := by decide +kernel
theorem no_road : noRoadLSs { strict := !(importedModules R31.prog.main.body).all cThrough.contains, foot := none, bare := (["vars", "dir", "locals"] : List Str).filter (readsOut R31.prog R31.prog.main.body) } R31.prog.main.body = true := by decide +kernel
theorem names_meet : (namesMeet R31.prog R31.prog.main.body fun _ n => attrL n) = true := by decide +kernel
theorem looks_open : looksOpen R31.prog = true := by
  unfold looksOpen
  refine and_tt (and_tt (and_tt (and_tt ?_ names_resolve) ?_) no_road) names_meet <;> decide +kernel
theorem part_said : R31.partSaid = true := by
  unfold OpenRow.partSaid
  refine and_tt (and_tt (and_tt (and_tt (and_tt (and_tt (and_tt (and_tt (and_tt (and_tt (and_tt (and_tt (and_tt looks_open ?_) ?_) ?_) ?_) ?_) ?_) ?_) ?_) ?_) ?_) ?_) ?_) ?_ <;> decide +kernel
theorem row_well : R31.wellSaid = true := by
  unfold OpenRow.wellSaid
  refine and_tt (and_tt part_said ?_) ?_ <;> decide +kernel
theorem no_road2 : noRoadLSs { strict := true, foot := some LL.bound', writes := LL.writes, may := LL.may } LL.footing = true := by decide +kernel
theorem law_said : LL.wellSaid = true := by
  unfold OpenLaw.wellSaid
  refine and_tt (and_tt (and_tt (and_tt (and_tt (and_tt (and_tt (and_tt (and_tt (and_tt (and_tt (and_tt (and_tt (and_tt (and_tt (and_tt (and_tt (and_tt row_well ?_) ?_) ?_) ?_) ?_) no_road2) ?_) ?_) ?_) ?_) ?_) ?_) ?_) ?_) ?_) ?_) ?_) ?_ <;> decide +kernel
end Mine
set_option maxHeartbeats 8000000 in
theorem PySem.Challenge.cw_uc0031_01_holds : PySem.Challenge.rw_uc0031_01.Holds := by
  refine PySem.W.holds_law Mine.law_said fun said => ?_
  have hw : Mine.R31.toRowW.promised := ⟨[.list []], by decide +kernel, by decide +kernel⟩
  exact ⟨said, hw, Mine.law_open hw⟩
