import PyProof.Rows.All
import Wide.All
import OpenK.AllK
import Wide.FinOn
import Lean
import PySem.Challenge.RW_rl0111_01
open PySem PySem.W PySem.Calls PyProof.Rows
set_option Elab.async false
set_option maxRecDepth 100000
set_option linter.unusedVariables false
namespace Mine

noncomputable abbrev P0 : Program := PySem.Challenge.pw_rl0111_01

noncomputable def stm (i : Nat) : Stmt := (P0.main.body[i]?).getD (.Pass default)
noncomputable def bodyOf : Stmt → List Stmt
  | .FunctionDef _ _ b _ _ _ _ _ _ _ => b
  | _ => []
noncomputable def scopeOf : Stmt → Scope
  | .FunctionDef _ _ _ _ _ _ s _ _ _ => s
  | _ => default
noncomputable def argsOf : Stmt → Arguments
  | .FunctionDef _ a _ _ _ _ _ _ _ _ => a
  | _ => default
noncomputable def nameAt : Stmt → Str
  | .FunctionDef n _ _ _ _ _ _ _ _ _ => n
  | _ => default
noncomputable def body (i : Nat) : List Stmt := bodyOf (stm i)
noncomputable def sco (i : Nat) : Scope := scopeOf (stm i)
noncomputable def par (i : Nat) : Arguments := argsOf (stm i)

noncomputable abbrev S (w : List Nat) : Str := ⟨w.toArray⟩
noncomputable abbrev WT := List Nat × Tok
noncomputable abbrev sv (p : WT) : Value := .str (S p.1) p.2
noncomputable abbrev IT := Int × Tok
noncomputable abbrev iv (p : IT) : Value := .int p.1 p.2

noncomputable abbrev NoE : Value → Shared → Prop := fun _ _ => False

noncomputable def upd (m : Str → Option Value) (x : Str) (v : Value) : Str → Option Value := fun y => if y = x then some v else m y
theorem upd_self {m : Str → Option Value} {x : Str} {v : Value} : upd m x v x = some v := if_pos rfl
theorem upd_ne {m : Str → Option Value} {x y : Str} {v : Value} (h : y ≠ x) : upd m x v y = m y := if_neg h

structure Loc (B : Heap) (L : Addr) (h : Heap) (m : Str → Option Value) : Prop where
  ns : h.Ns L m
  keep : ∀ b o, B.get? b = some o → h.get? b = some o
  free : B.get? L = none

theorem Loc.set {B h h' : Heap} {L : Addr} {m m' : Str → Option Value} (F : Loc B L h m) (hn : h'.Ns L m') (hs : Heap.SameBut L h h') : Loc B L h' m' :=
  ⟨hn, fun b o e => (hs.2 b (fun q => by rw [q, F.free] at e; cases e)).trans (F.keep b o e), F.free⟩
theorem Loc.push {B h : Heap} {L : Addr} {m : Str → Option Value} (F : Loc B L h m) (o : Obj) : Loc B L (h.push o) m := by
  obtain ⟨oL, a1, a2, hL, a3⟩ := F.ns
  exact ⟨⟨oL, a1, a2, Heap.get?_push_of_some _ hL, a3⟩, fun b o' e => Heap.get?_push_of_some _ (F.keep b o' e), F.free⟩
theorem Loc.change {B h h' : Heap} {L d : Addr} {m : Str → Option Value} (F : Loc B L h m) (hs : Heap.SameBut d h h') (hL : d ≠ L) (hn : B.get? d = none) : Loc B L h' m := by
  obtain ⟨oL, a1, a2, hoL, a3⟩ := F.ns
  refine ⟨⟨oL, a1, a2, (hs.2 L hL.symm).trans hoL, a3⟩, fun b x e => (hs.2 b ?_).trans (F.keep b x e), F.free⟩
  rintro rfl
  rw [hn] at e; cases e
theorem listK {h h' : Heap} {a : Addr} {items} (x : h.IsList a items) (k : ∀ b o, h.get? b = some o → h'.get? b = some o) : h'.IsList a items := by
  obtain ⟨o, ho, r⟩ := x; exact ⟨o, k _ _ ho, r⟩
theorem noMem {α : Type} {p : α} {P : Prop} (h : p ∈ ([] : List α)) : P := by cases h
theorem Loc.grow {B h h' : Heap} {L : Addr} {m : Str → Option Value} (F : Loc B L h m) (k : ∀ b o, h.get? b = some o → h'.get? b = some o) : Loc B L h' m :=
  ⟨F.ns.keeps k, fun b o e => k b o (F.keep b o e), F.free⟩
theorem Loc.but {B h h' : Heap} {L d : Addr} {m : Str → Option Value} (F : Loc B L h m) (k : Heap.ExtBut d h h') (hL : d ≠ L) (hn : B.get? d = none) : Loc B L h' m :=
  ⟨F.ns.extBut k hL.symm, fun b o e => k b o (fun q => by rw [q, hn] at e; cases e) (F.keep b o e), F.free⟩
theorem Loc.lst {B h : Heap} {L a : Addr} {m : Str → Option Value} {items} (F : Loc B L h m) (x : B.IsList a items) : h.IsList a items := listK x F.keep

theorem News.grow' {B h h' : Heap} {L : Addr} {led : List (Addr × Obj)} (N : News B L h led) (k : ∀ b o, h.get? b = some o → h'.get? b = some o) : News B L h' led :=
  fun p hp => ⟨k _ _ (N p hp).1, (N p hp).2⟩
theorem News.but' {B h h' : Heap} {L d : Addr} {led : List (Addr × Obj)} (N : News B L h led) (k : Heap.ExtBut d h h') (hd : ∀ p ∈ led, p.1 ≠ d) : News B L h' led :=
  fun p hp => ⟨k _ _ (hd p hp) (N p hp).1, (N p hp).2⟩
theorem News.pushL {B h : Heap} {L : Addr} {m : Str → Option Value} {led : List (Addr × Obj)} (F : Loc B L h m) (N : News B L h led) (o : Obj) (hfree : o.isFreed = false := by rfl) :
    News B L (h.push o) ((h.objs.size, o) :: led) := by
  obtain ⟨oL, _, _, hL, _⟩ := F.ns
  intro p hp
  rcases List.mem_cons.mp hp with rfl | hp
  · refine ⟨Heap.get?_push_size _ hfree, Nat.ne_of_gt (Heap.lt_size hL), ?_⟩
    cases hq : B.get? h.objs.size with
    | none => rfl
    | some o' => exact absurd (Heap.lt_size (F.keep _ _ hq)) (Nat.lt_irrefl _)
  · exact ⟨Heap.get?_push_of_some _ (N p hp).1, (N p hp).2⟩

section
variable {w : World} {A : Around} {E : Value → Shared → Prop} {s : Shared} {name : Str} {scope : Scope} {L a : Addr} {cd : Value} {B : Heap} {m mg mb : Str → Option Value} {led : List (Addr × Obj)}

theorem ldv {x : Str} {pos : Pos} {v : Value} {Q : Value → Shared → Prop} (F : Loc B L s.heap m) (hv : m x = some v) (h : Q v s)
    (hk : scope.kind = .function := by rfl) (hl : (envOf name scope L a cd).kindOf x = some .local := by rfl)
    (hd : (x == ("__debug__" : Str)) = false := by decide) :
    wpAny (model P0 w) A (eval (.Name x pos) (envOf name scope L a cd)) Q E s := wpAny_Name (wpAny_loadName_local hk hl F.ns hv h) hd
theorem ldnv {x : Str} {v : Value} {Q : Value → Shared → Prop} (F : Loc B L s.heap m) (hv : m x = some v) (h : Q v s)
    (hk : scope.kind = .function := by rfl) (hl : (envOf name scope L a cd).kindOf x = some .local := by rfl) :
    wpAny (model P0 w) A (loadName (envOf name scope L a cd) x) Q E s := wpAny_loadName_local hk hl F.ns hv h
theorem stv {x : Str} {v : Value} {Q : Unit → Shared → Prop} (F : Loc B L s.heap m) (N : News B L s.heap led)
    (h : ∀ h' tk, Loc B L h' (upd m x v) → News B L h' led → Q () { s with heap := h', toks := tk })
    (hk : scope.kind = .function := by rfl) (hl : (envOf name scope L a cd).kindOf x = some .local := by rfl) :
    wpAny (model P0 w) A (storeName (envOf name scope L a cd) x v) Q E s :=
  wpAny_storeName_local hl F.ns (fun h' hn hs => h h' _ (F.set hn hs) (N.set hs))
    (by show (scope.kind == .class || (scope.kind == .module && L != mainGlobals)) = false; rw [hk]; rfl)

theorem while_gen {test : Expr} {body : List Stmt} {pos : Pos} {env : Env} {Q : Flow → Shared → Prop} (I : Nat → Shared → Prop) {n : Nat} (hI : I n s)
    (turn : ∀ n s, I n s → wpAny (model P0 w) A (isTrue test env (eval test env)) (fun b s₂ =>
      if b = true then wpAny (model P0 w) A (execs body env) (fun f s₃ => match f with
          | .next | .cont => ∃ m, m < n ∧ I m s₃
          | .brk => Q .next s₃
          | .ret v => Q (.ret v) s₃) NoE s₂ else Q .next s₂) NoE s) :
    wpAny (model P0 w) A (exec (.While test body [] pos) env) Q NoE s := by
  refine wpAny_While (codeAny_whileLoop I (fun n s' hI => ?_) n hI)
  refine wpAny_mono (turn n s' hI) (fun b s₂ h₂ => ?_) fun _ _ h => h.elim
  cases b with
  | false =>
    simp only [Bool.false_eq_true, if_false] at h₂ ⊢
    exact wpAny_execs_nil h₂
  | true =>
    simp only [if_true] at h₂ ⊢
    refine wpAny_mono h₂ (fun f s₃ h₃ => ?_) fun _ _ h => h.elim
    cases f <;> exact h₃
end

noncomputable def FnIs (h : Heap) (a : Addr) (i : Nat) (nm : Str) (dV kV : Value) : Prop :=
  ∃ pm c doc, h.get? a = some { cls := .type "function", data := .func (defFd nm nm (par i) (body i) (sco i) mainGlobals dV kV none pm (.ref c) doc) } ∧ h.CodeRec (.ref c) nm

theorem FnIs.keeps {h h' : Heap} {a : Addr} {i : Nat} {nm : Str} {dV kV : Value} (x : FnIs h a i nm dV kV) (k : ∀ b o, h.get? b = some o → h'.get? b = some o) : FnIs h' a i nm dV kV :=
  by obtain ⟨pm, c, doc, h1, h2⟩ := x; exact ⟨pm, c, doc, k _ _ h1, h2.keeps k⟩

theorem enter {w : World} {A : Around} {E : Value → Shared → Prop} {s : Shared} {a : Addr} {i : Nat} {nm : Str} {dV kV : Value} {pos : List Value} {kw : List (Str × Value)} {binds : List (Str × Value)} {Q : Value → Shared → Prop}
    (hf : FnIs s.heap a i nm dV kV) (hlim : s.heap.NoLimit) (hroom : A.depth < recursionLimit)
    (hbind : ∀ pm cd doc, BindsTo s (defFd nm nm (par i) (body i) (sco i) mainGlobals dV kV none pm cd doc) ⟨pos, kw⟩ binds)
    (h : ∀ h₁ cd, h₁.Ns s.heap.objs.size (fun x => binds.reverse.lookup x) → (∀ b o, s.heap.get? b = some o → h₁.get? b = some o) →
      wpAny (model P0 w) (A.deeper (envOf nm (sco i) s.heap.objs.size a cd)) (execs (body i) (envOf nm (sco i) s.heap.objs.size a cd))
        (fun f s' => Q (match f with | .ret v => v | _ => .none) s') NoE { s with heap := h₁, toks := s.toks + binds.length })
    (hloc : (binds.all fun x => decide ((sco i).names.lookup x.1 = some .local)) = true := by rfl)
    (hcell : ((sco i).names.all fun x => decide (x.2 ≠ .cell)) = true := by rfl)
    (hco : (sco i).isCoroutine = false := by rfl) (hgen : (sco i).isGenerator = false := by rfl) (hk : (sco i).kind = .function := by rfl) :
    wpAny (model P0 w) A (call (.ref a) pos kw) Q E s := by
  obtain ⟨pm, c, doc, ho, hcd⟩ := hf
  refine wpAny_call (codeAny_call_def hroom ho rfl hlim hcd rfl (hbind pm _ doc) (fun x hx => of_decide_eq_true (List.all_eq_true.mp hcell x hx)) (locs hloc) (fun h₁ hns hk₁ => ?_) hco hgen hk)
  exact wpAny_mono (h h₁ _ hns hk₁) (fun _ _ q => q) fun _ _ q => q.elim

theorem Loc.start {h h₁ : Heap} {m : Str → Option Value} (hn : h₁.Ns h.objs.size m) (hk : ∀ b o, h.get? b = some o → h₁.get? b = some o) : Loc h h.objs.size h₁ m :=
  ⟨hn, hk, by
    cases q : h.get? h.objs.size with
    | none => rfl
    | some o => exact absurd (Heap.lt_size q) (Nat.lt_irrefl _)⟩

end Mine

namespace Mine

noncomputable def bnames : List Str := ["len", "range", "ord", "chr", "min", "max", "sum", "list", "set"]
noncomputable def plainDefs : List (Nat × Str) := [(6, "in_table_b1"), (8, "map_table_b3"), (10, "in_table_c9"), (14, "ISNONTERMINAL"), (15, "ISEOF"), (17, "_law_book"), (18, "_law_words"), (19, "_law_put"), (20, "_law_begun"), (21, "_law_wait"), (22, "_law_shortest"), (23, "_law_spelled"), (24, "_law_readers"), (25, "_law_parts"), (26, "_law_made_of"), (27, "law")]
noncomputable def bisDefs : List (Nat × Str) := [(1, "insort_right"), (2, "bisect_right"), (3, "bisect_left")]

noncomputable def BisDflt (h : Heap) (dV kV : Value) : Prop :=
  ∃ T D t kd o n, dV = .ref T ∧ kV = .ref D ∧ h.get? T = some o ∧ o.data = .seq #[.int 0 t, .none] n ∧ h.Ns D kd ∧ kd "key" = some .none

structure Rm (A : Around) (k : Nat) : Prop where
  depth : A.depth + k < recursionLimit
  units : A.units + 3 * k + 100 < cLine
  handled : A.handled = none

noncomputable def FnC (h : Heap) (a : Addr) (i : Nat) (nm : Str) (c : Addr) : Prop :=
  ∃ pm doc, h.get? a = some { cls := .type "function", data := .func (defFd nm nm (par i) (body i) (sco i) mainGlobals .none .none none pm (.ref c) doc) } ∧ h.CodeRec (.ref c) nm

noncomputable def b1b (c : Nat) : Bool := [173, 847, 6150, 6155, 6156, 6157, 8203, 8204, 8205, 8288, 65279].contains c || (65024 ≤ c && c < 65040)
noncomputable def c9b (c : Nat) : Bool := c == 917505 || (917536 ≤ c && c < 917632)
noncomputable def b3L : List (Nat × Option (List Nat)) :=
  [(70, none), (73, none), (64256, some [102, 102]), (64257, some [102, 105]), (64259, some [102, 102, 105])] ++
  [119808, 119860, 119912, 120016, 120172, 120224, 120276, 120328, 120380, 120432].flatMap fun a => [(a + 5, some [102]), (a + 8, some [105])]

noncomputable def InSet (h : Heap) (a : Addr) (p : Nat → Bool) : Prop :=
  ∀ (w : World) (A : Around) (E : Value → Shared → Prop) (s : Shared) (Q : Value → Shared → Prop) (c : Nat) (t : Tok), (∀ b o, h.get? b = some o → s.heap.get? b = some o) → Rm A 0 → c < 0x110000 →
    (∀ h' tk, (∀ b o, s.heap.get? b = some o → h'.get? b = some o) → Q (.bool (p c)) { s with heap := h', toks := tk }) → wpAny (model P0 w) A (compareOp .In (.int (c : Int) t) (.ref a)) Q E s
noncomputable def optStr (v : Value) : Option (List Nat) → Prop
  | none => v = .none
  | some x => ∃ t, v = .str (S x) t
noncomputable def GetsOf (h : Heap) (a : Addr) : Prop :=
  ∀ (w : World) (A : Around) (E : Value → Shared → Prop) (s : Shared) (Q : Value → Shared → Prop) (c : Nat) (r : Option (List Nat)) (t : Tok), (∀ b o, h.get? b = some o → s.heap.get? b = some o) → Rm A 0 → (c, r) ∈ b3L →
    (∀ v h' tk, (∀ b o, s.heap.get? b = some o → h'.get? b = some o) → optStr v r → Q v { s with heap := h', toks := tk }) → wpAny (model P0 w) A (call (.builtin "dict.get") [.ref a, .int (c : Int) t]) Q E s

structure Gnd (ad : Nat → Addr) (mg mb : Str → Option Value) (h : Heap) : Prop where
  g : h.Ns mainGlobals mg
  b : h.Ns builtinsNs mb
  nolimit : h.NoLimit
  builtins : ∀ x : Str, x ≠ "__name__" → mb x = bootBuiltins x
  free : ∀ x ∈ bnames, mg x = none
  fn : ∀ p ∈ plainDefs, mg p.2 = some (.ref (ad p.1)) ∧ FnIs h (ad p.1) p.1 p.2 .none .none
  bis : ∀ p ∈ bisDefs, mg p.2 = some (.ref (ad p.1)) ∧ ∃ dV kV, FnIs h (ad p.1) p.1 p.2 dV kV ∧ BisDflt h dV kV
  endm : ∃ t, mg "ENDMARKER" = some (.int 0 t)
  ntoff : ∃ t, mg "NT_OFFSET" = some (.int 256 t)
  bmain : ∃ bm o, mg "__builtins__" = some (.ref bm) ∧ bm ≠ builtinsNs ∧ bm ≠ mainGlobals ∧ h.get? bm = some o ∧ o.cls = .type "module" ∧ o.dict = some builtinsNs ∧ o.data = .plain
  lamB : ∃ c, FnC h (ad 20) 20 "_law_begun" c ∧ CodeHd h c (ad 120)
  lamW : ∃ c, FnC h (ad 21) 21 "_law_wait" c ∧ CodeHd h c (ad 121)
  b1 : mg "b1_set" = some (.ref (ad 5)) ∧ InSet h (ad 5) b1b
  c9 : mg "c9_set" = some (.ref (ad 9)) ∧ InSet h (ad 9) c9b
  b3 : mg "b3_exceptions" = some (.ref (ad 7)) ∧ (∃ o, h.get? (ad 7) = some o ∧ o.cls = .type "dict" ∧ o.dict = none) ∧ GetsOf h (ad 7)

theorem BisDflt.keeps {h h' : Heap} {dV kV : Value} (x : BisDflt h dV kV) (k : ∀ b o, h.get? b = some o → h'.get? b = some o) : BisDflt h' dV kV :=
  by obtain ⟨T, D, t, kd, o, n, a, b, c, d, e, f⟩ := x; exact ⟨T, D, t, kd, o, n, a, b, k _ _ c, d, e.keeps k, f⟩
theorem FnC.keeps {h h' : Heap} {a c : Addr} {i : Nat} {nm : Str} (x : FnC h a i nm c) (k : ∀ b o, h.get? b = some o → h'.get? b = some o) : FnC h' a i nm c :=
  by obtain ⟨pm, doc, h1, h2⟩ := x; exact ⟨pm, doc, k _ _ h1, h2.keeps k⟩

theorem FnC.is {h : Heap} {a c : Addr} {i : Nat} {nm : Str} (f : FnC h a i nm c) : FnIs h a i nm .none .none := by
  obtain ⟨pm, doc, x, y⟩ := f; exact ⟨pm, c, doc, x, y⟩
theorem Gnd.keeps {ad : Nat → Addr} {mg mb : Str → Option Value} {h h' : Heap} (G : Gnd ad mg mb h) (k : ∀ b o, h.get? b = some o → h'.get? b = some o) : Gnd ad mg mb h' :=
  ⟨G.g.keeps k, G.b.keeps k, G.nolimit.keeps k, G.builtins, G.free, fun p hp => ⟨(G.fn p hp).1, (G.fn p hp).2.keeps k⟩,
   fun p hp => by obtain ⟨a, dV, kV, b, c⟩ := G.bis p hp; exact ⟨a, dV, kV, b.keeps k, c.keeps k⟩, G.endm, G.ntoff,
   by obtain ⟨bm, o, a, b, c, d, e⟩ := G.bmain; exact ⟨bm, o, a, b, c, k _ _ d, e⟩,
   by obtain ⟨c, a, b⟩ := G.lamB; exact ⟨c, a.keeps k, b.keeps k⟩, by obtain ⟨c, a, b⟩ := G.lamW; exact ⟨c, a.keeps k, b.keeps k⟩,
   ⟨G.b1.1, fun w A E s Q c t q => G.b1.2 w A E s Q c t (fun b o e => q b o (k b o e))⟩,
   ⟨G.c9.1, fun w A E s Q c t q => G.c9.2 w A E s Q c t (fun b o e => q b o (k b o e))⟩,
   ⟨G.b3.1, by obtain ⟨o, a, b⟩ := G.b3.2.1; exact ⟨o, k _ _ a, b⟩, fun w A E s Q c r t q => G.b3.2.2 w A E s Q c r t (fun b o e => q b o (k b o e))⟩⟩

section
variable {w : World} {A : Around} {E : Value → Shared → Prop} {s : Shared} {name : Str} {scope : Scope} {L a : Addr} {cd : Value} {B : Heap} {m mg mb : Str → Option Value} {led : List (Addr × Obj)} {ad : Nat → Addr}
theorem ldb {x : Str} {pos : Pos} {v : Value} {Q : Value → Shared → Prop} (F : Loc B L s.heap m) (G : Gnd ad mg mb B) (hv : bootBuiltins x = some v) (h : Q v s) (hm : x ∈ bnames := by decide) (hn : x ≠ "__name__" := by decide)
    (hk : scope.kind = .function := by rfl) (hx : (envOf name scope L a cd).kindOf x = some .globalImplicit := by rfl) (hd : (x == ("__debug__" : Str)) = false := by decide) :
    wpAny (model P0 w) A (eval (.Name x pos) (envOf name scope L a cd)) Q E s :=
  Calls.Name_function_global hk hx (Calls.loadGlobal_builtin (env := envOf name scope L a cd) (G.g.keeps F.keep) (G.free x hm) (G.b.keeps F.keep) ((G.builtins x hn).trans hv) h) hd
theorem ldg {x : Str} {pos : Pos} {v : Value} {Q : Value → Shared → Prop} (F : Loc B L s.heap m) (G : Gnd ad mg mb B) (hv : mg x = some v) (h : Q v s)
    (hk : scope.kind = .function := by rfl) (hx : (envOf name scope L a cd).kindOf x = some .globalImplicit := by rfl) (hd : (x == ("__debug__" : Str)) = false := by decide) :
    wpAny (model P0 w) A (eval (.Name x pos) (envOf name scope L a cd)) Q E s :=
  Calls.Name_function_global hk hx (Calls.loadGlobal_global (env := envOf name scope L a cd) (G.g.keeps F.keep) hv h) hd

theorem callFn {pos : Pos} {f : Addr} {i : Nat} {nm : Str} {dV kV : Value} {x : Sem Value} {rest : List (Bool × Sem Value)} {keywords : List (Option Str × Sem Value)} {Q : Value → Shared → Prop} (hf : FnIs B f i nm dV kV)
    (h : wpAny (model P0 w) A (spliced ((false, x) :: rest)) (fun vs s₁ => wpAny (model P0 w) A (evalAll (keywords.map (·.2))) (fun ks s₂ =>
      (∀ b o, B.get? b = some o → s₂.heap.get? b = some o) ∧ wpAny (model P0 w) A (call (.ref f) vs ((keywords.filterMap (·.1)).zip ks)) Q E s₂) E s₁) E s)
    (hk : keywords.all (·.1.isSome) = true := by rfl) :
    wpAny (model P0 w) A (callWith pos (.ref f) [] ((false, x) :: rest) keywords) Q E s := by
  obtain ⟨pm, c, doc, ho, _⟩ := hf
  refine callWith_function_kw (o := { cls := .type "function", data := .func (defFd nm nm (par i) (body i) (sco i) mainGlobals dV kV none pm (.ref c) doc) }) (fd := defFd nm nm (par i) (body i) (sco i) mainGlobals dV kV none pm (.ref c) doc) ?_
  refine evalArgs_kw hk (wpAny_mono h (fun vs s₁ q => wpAny_mono q (fun ks s₂ r => ⟨⟨r.1 _ _ ho, rfl⟩, ?_⟩) fun _ _ e => e) fun _ _ e => e)
  rw [List.nil_append]
  exact r.2
end

theorem boot_len : bootBuiltins "len" = some (.builtin "len") := by decide +kernel

local macro_rules | `(tactic| walk_at "lk") => `(tactic| first | with_reducible assumption | exact upd_self | (refine (upd_ne (by decide)).trans ?_; walk_at "lk"))

theorem lt_of_lt_le {a b c : List Nat} (h : a < b) (h' : b ≤ c) : a < c := by
  rw [← List.not_le]; intro q
  exact (List.not_le.mpr h) (List.le_trans h' q)

theorem countP_cut {α : Type} (p : α → Bool) (l : List α) (k : Nat) (hk : k ≤ l.length) (h1 : ∀ i (h : i < l.length), i < k → p l[i] = true) (h2 : ∀ i (h : i < l.length), k ≤ i → p l[i] = false) : l.countP p = k := by
  rw [← List.take_append_drop k l, List.countP_append]
  have a : (l.take k).countP p = k := by
    rw [List.countP_eq_length.mpr, List.length_take, Nat.min_eq_left hk]
    intro x hx
    obtain ⟨i, hi, rfl⟩ := List.getElem_of_mem hx
    rw [List.getElem_take]
    rw [List.length_take] at hi
    exact h1 i (by omega) (by omega)
  have b : (l.drop k).countP p = 0 := by
    rw [List.countP_eq_zero]
    intro x hx
    obtain ⟨i, hi, rfl⟩ := List.getElem_of_mem hx
    rw [List.getElem_drop]
    rw [List.length_drop] at hi
    rw [h2 (k + i) (by omega) (by omega)]
    exact Bool.false_ne_true
  rw [a, b]; rfl

structure Bis (p : Nat → Prop) (lo0 hi0 lo hi : Nat) : Prop where
  l : lo0 ≤ lo
  m : lo ≤ hi
  h : hi ≤ hi0
  yes : ∀ i, lo0 ≤ i → i < lo → p i
  no : ∀ i, hi ≤ i → i < hi0 → ¬ p i
theorem bis_mid {lo hi : Nat} (h : lo < hi) : lo ≤ (lo + hi) / 2 ∧ (lo + hi) / 2 < hi := by omega
theorem fdiv_mid (lo hi : Nat) : (((lo : Int) + (hi : Int)).fdiv 2) = (((lo + hi) / 2 : Nat) : Int) := by
  rw [Int.fdiv_eq_ediv_of_nonneg _ (by decide)]; omega
theorem Bis.start {p : Nat → Prop} {lo0 hi0 : Nat} (h : lo0 ≤ hi0) : Bis p lo0 hi0 lo0 hi0 := ⟨Nat.le_refl _, h, Nat.le_refl _, fun i a b => by omega, fun i a b => by omega⟩
theorem Bis.up {p : Nat → Prop} {lo0 hi0 lo hi : Nat} (b : Bis p lo0 hi0 lo hi) (mono : ∀ i j, i ≤ j → j < hi0 → p j → p i) (hlt : lo < hi) (hp : p ((lo + hi) / 2)) : Bis p lo0 hi0 ((lo + hi) / 2 + 1) hi := by
  obtain ⟨b1, b2⟩ := bis_mid hlt
  have := b.h; have := b.l
  exact ⟨by omega, by omega, b.h, fun i _ hi' => mono i _ (by omega) (by omega) hp, b.no⟩
theorem Bis.down {p : Nat → Prop} {lo0 hi0 lo hi : Nat} (b : Bis p lo0 hi0 lo hi) (mono : ∀ i j, i ≤ j → j < hi0 → p j → p i) (hlt : lo < hi) (hp : ¬ p ((lo + hi) / 2)) : Bis p lo0 hi0 lo ((lo + hi) / 2) := by
  obtain ⟨b1, b2⟩ := bis_mid hlt
  have := b.h
  exact ⟨b.l, by omega, by omega, b.yes, fun i hi' hj q => hp (mono _ i hi' hj q)⟩

inductive BisW (s : Shared) (B : Heap) (L : Addr) (led : List (Addr × Obj)) (l : Addr) (xv : Value) (key : Option Value) (f : Nat → Prop) (lo0 len n : Nat) (s' : Shared) : Prop
  | mk : ∀ h' tk m' lo hi t1 t2, s' = { s with heap := h', toks := tk } → Loc B L h' m' → News B L h' led → m' "a" = some (.ref l) → m' "x" = some xv →
      (key = none ∨ m' "key" = key) → m' "lo" = some (.int ((lo : Nat) : Int) t1) → m' "hi" = some (.int ((hi : Nat) : Int) t2) → n = hi - lo → Bis f lo0 len lo hi → BisW s B L led l xv key f lo0 len n s'

set_option maxHeartbeats 1000000 in
theorem bl_body {w : World} {A : Around} {s : Shared} {B : Heap} {L a l : Addr} {cd : Value} {ad : Nat → Addr} {mg mb m : Str → Option Value} {led : List (Addr × Obj)} {ps : List WT} {x : List Nat} {tx t0 : Tok} {Q : Flow → Shared → Prop}
    (F : Loc B L s.heap m) (N : News B L s.heap led) (G : Gnd ad mg mb B) (hl : B.IsList l (ps.map sv).toArray) (hn : ps.length < 1000000)
    (ma : m "a" = some (.ref l)) (mx : m "x" = some (.str (S x) tx)) (mlo : m "lo" = some (.int 0 t0)) (mhi : m "hi" = some .none) (mk : m "key" = some .none)
    (hs : ∀ i j (_ : i < ps.length) (_ : j < ps.length), i ≤ j → ps[j].1 < x → ps[i].1 < x)
    (h : ∀ h' tk t m' k, Loc B L h' m' → News B L h' led → Bis (fun i => ∃ h : i < ps.length, ps[i].1 < x) 0 ps.length k k → Q (.ret (.int (k : Nat) t)) { s with heap := h', toks := tk }) :
    wpAny (model P0 w) A (execs (body 3) (envOf "bisect_left" (sco 3) L a cd)) Q NoE s := by
  refine wpAny_execs_cons ?_
  refine wpAny_If (wpAny_isTrue_Compare1 (ldv F mlo (wpAny_Constant_int (wpAny_lt_int (wpAny_truthy_bool ?_)))))
  rw [if_neg (by decide)]
  refine wpAny_execs_nil ?_
  refine wpAny_execs_cons ?_
  refine wpAny_If (wpAny_isTrue_Compare1 (ldv F mhi (wpAny_Constant_none (is_none_none (wpAny_truthy_bool ?_)))))
  rw [if_pos rfl]
  refine wpAny_execs_cons (wpAny_Assign_Name (Call_Name1 (ldb F G boot_len ?_)))
  refine callWith_builtin1 (ldv F ma (len_list (F.lst hl) (by simp; omega) ?_))
  refine stv F N fun h₁ _ F₁ N₁ => wpAny_execs_nil ?_
  refine wpAny_execs_cons ?_
  refine wpAny_If (wpAny_isTrue_Compare1 (ldv F₁ (by walk_at "lk") (wpAny_Constant_none (is_none_none (wpAny_truthy_bool ?_)))))
  rw [if_pos rfl]
  refine wpAny_execs_cons ?_
  dsimp only at F₁ ⊢
  have mono : ∀ i j, i ≤ j → j < ps.length → (∃ h : j < ps.length, ps[j].1 < x) → ∃ h : i < ps.length, ps[i].1 < x := fun i j q hj e => e.elim fun hj' e => ⟨Nat.lt_of_le_of_lt q hj, hs i j (Nat.lt_of_le_of_lt q hj) hj q e⟩
  refine while_gen (fun n s' => BisW s B L led l (.str (S x) tx) none (fun i => ∃ h : i < ps.length, ps[i].1 < x) 0 ps.length n s')
    (n := ps.length) ⟨_, _, _, 0, ps.length, _, _, rfl, F₁, N₁, by walk_at "lk", by walk_at "lk", .inl rfl, (upd_ne (by decide)).trans mlo, (by refine upd_self.trans ?_; simp; rfl), rfl, Bis.start (Nat.zero_le _)⟩ ?_
  rintro n s' ⟨h', tk, m', lo, hi, t1, t2, rfl, F', N', a', x', -, lo', hi', rfl, bb⟩
  refine wpAny_isTrue_Compare1 (ldv F' lo' (ldv F' hi' (wpAny_lt_int (wpAny_truthy_bool ?_))))
  by_cases hlt : lo < hi
  · rw [if_pos (by simpa using hlt)]
    obtain ⟨b1, b2⟩ := bis_mid hlt
    have b3 := bb.h
    refine wpAny_execs_cons (wpAny_Assign_Name (wpAny_BinOp (wpAny_BinOp (ldv F' lo' (ldv F' hi' (wpAny_add_int (wpAny_Constant_int (floordiv_int (by decide) ?_ (.inl (PyProof.noPylong_of_log2 (by decide +kernel)))))))))))
    rw [fdiv_mid]
    refine stv F' N' fun h₂ _ F₂ N₂ => ?_
    dsimp only at F₂ ⊢
    have hm : (lo + hi) / 2 < ps.length := by omega
    refine wpAny_execs_cons (wpAny_If (wpAny_isTrue_Compare1 (Subscript_ (ldv F₂ (by walk_at "lk") (ldv F₂ (by walk_at "lk") (item_list (x := sv ps[(lo + hi) / 2]) (F₂.lst hl) (by omega) (by omega) (by rw [Int.toNat_natCast]; simp [hm]) ?_))))))
    refine ldv F₂ (by walk_at "lk") (lt_str (wpAny_truthy_bool ?_))
    show if decide (ps[(lo + hi) / 2].1 < x) = true then _ else _
    by_cases hc : ps[(lo + hi) / 2].1 < x
    · rw [if_pos (by simpa using hc)]
      refine wpAny_execs_cons (wpAny_Assign_Name (wpAny_BinOp (ldv F₂ (by walk_at "lk") (wpAny_Constant_int (wpAny_add_int (stv F₂ N₂ fun h₃ _ F₃ N₃ => wpAny_execs_nil (wpAny_execs_nil ?_)))))))
      dsimp only at F₃ ⊢
      exact ⟨hi - ((lo + hi) / 2 + 1), by omega, h₃, _, _, (lo + hi) / 2 + 1, hi, _, _, rfl, F₃, N₃, by walk_at "lk", by walk_at "lk", .inl rfl, upd_self.trans (by simp; rfl), by walk_at "lk", rfl, bb.up mono hlt ⟨hm, hc⟩⟩
    · rw [if_neg (by simpa using hc)]
      refine wpAny_execs_cons (wpAny_Assign_Name (ldv F₂ (by walk_at "lk") (stv F₂ N₂ fun h₃ _ F₃ N₃ => wpAny_execs_nil (wpAny_execs_nil ?_))))
      dsimp only at F₃ ⊢
      exact ⟨(lo + hi) / 2 - lo, by omega, h₃, _, _, lo, (lo + hi) / 2, _, _, rfl, F₃, N₃, by walk_at "lk", by walk_at "lk", .inl rfl, by walk_at "lk", upd_self, rfl, bb.down mono hlt fun q => q.elim fun _ q => hc q⟩
  · rw [if_neg (by simpa using hlt)]
    have e : lo = hi := by have := bb.m; omega
    subst e
    exact wpAny_execs_nil (wpAny_execs_cons (wpAny_Return_some (ldv F' lo' (h _ _ _ _ _ F' N' bb))))

end Mine

namespace Mine
section
variable {s : Shared} {dV kV pm cd doc v x lo hi key : Value} {nm : Str}
noncomputable abbrev bisFd (i : Nat) (nm : Str) (dV kV pm cd doc : Value) : FuncData := defFd nm nm (par i) (body i) (sco i) mainGlobals dV kV none pm cd doc

local macro_rules | `(tactic| walk_at "bindk") => `(tactic| (
  refine wpAny_bind (wpAny_pure ?_)
  refine wpAny_bind (wpAny_seqItems (by assumption) (by assumption) ?_)
  refine wpAny_bind (wpAny_pure ?_)
  refine wpAny_bind (wpAny_pure ?_)
  exact wpAny_pure (by assumption)))

theorem bind2_1 (H : BisDflt s.heap dV kV) : ∃ t, ∀ pm cd doc, BindsTo s (bisFd 1 nm dV kV pm cd doc) ⟨[v, x], []⟩ [("a", v), ("x", x), ("lo", .int 0 t), ("hi", .none), ("key", .none)] := by
  obtain ⟨T, D, t, kd, o, n, rfl, rfl, ho, hd, hn, hk⟩ := H
  refine ⟨t, fun pm cd doc M A E Q hq => ?_⟩
  unfold bindArgs
  refine wpAny_bind (wpAny_pure ?_)
  refine wpAny_bind (wpAny_seqItems ho hd ?_)
  refine wpAny_bind (wpAny_pure ?_)
  refine wpAny_bind ?_
  show wpAny M A (forIn [Str.ofString "key"] _ _) _ _ _
  rw [List.forIn_cons]
  refine wpAny_bind (wpAny_bind (m := nsGet D (Str.ofString "key")) (wpAny_nsGet hn ?_))
  rw [hk]
  refine wpAny_pure ?_
  exact wpAny_pure (wpAny_pure hq)
theorem bind2_2 (H : BisDflt s.heap dV kV) : ∃ t, ∀ pm cd doc, BindsTo s (bisFd 2 nm dV kV pm cd doc) ⟨[v, x], []⟩ [("a", v), ("x", x), ("lo", .int 0 t), ("hi", .none), ("key", .none)] := by
  obtain ⟨T, D, t, kd, o, n, rfl, rfl, ho, hd, hn, hk⟩ := H
  refine ⟨t, fun pm cd doc M A E Q hq => ?_⟩
  unfold bindArgs
  refine wpAny_bind (wpAny_pure ?_)
  refine wpAny_bind (wpAny_seqItems ho hd ?_)
  refine wpAny_bind (wpAny_pure ?_)
  refine wpAny_bind ?_
  show wpAny M A (forIn [Str.ofString "key"] _ _) _ _ _
  rw [List.forIn_cons]
  refine wpAny_bind (wpAny_bind (m := nsGet D (Str.ofString "key")) (wpAny_nsGet hn ?_))
  rw [hk]
  refine wpAny_pure ?_
  exact wpAny_pure (wpAny_pure hq)
theorem bind2_3 (H : BisDflt s.heap dV kV) : ∃ t, ∀ pm cd doc, BindsTo s (bisFd 3 nm dV kV pm cd doc) ⟨[v, x], []⟩ [("a", v), ("x", x), ("lo", .int 0 t), ("hi", .none), ("key", .none)] := by
  obtain ⟨T, D, t, kd, o, n, rfl, rfl, ho, hd, hn, hk⟩ := H
  refine ⟨t, fun pm cd doc M A E Q hq => ?_⟩
  unfold bindArgs
  refine wpAny_bind (wpAny_pure ?_)
  refine wpAny_bind (wpAny_seqItems ho hd ?_)
  refine wpAny_bind (wpAny_pure ?_)
  refine wpAny_bind ?_
  show wpAny M A (forIn [Str.ofString "key"] _ _) _ _ _
  rw [List.forIn_cons]
  refine wpAny_bind (wpAny_bind (m := nsGet D (Str.ofString "key")) (wpAny_nsGet hn ?_))
  rw [hk]
  refine wpAny_pure ?_
  exact wpAny_pure (wpAny_pure hq)
theorem bind4_2 (H : BisDflt s.heap dV kV) : ∀ pm cd doc, BindsTo s (bisFd 2 nm dV kV pm cd doc) ⟨[v, x, lo, hi], []⟩ [("a", v), ("x", x), ("lo", lo), ("hi", hi), ("key", .none)] := by
  obtain ⟨T, D, t, kd, o, n, rfl, rfl, ho, hd, hn, hk⟩ := H
  refine fun pm cd doc M A E Q hq => ?_
  unfold bindArgs
  refine wpAny_bind (wpAny_pure ?_)
  refine wpAny_bind (wpAny_seqItems ho hd ?_)
  refine wpAny_bind (wpAny_pure ?_)
  refine wpAny_bind ?_
  show wpAny M A (forIn [Str.ofString "key"] _ _) _ _ _
  rw [List.forIn_cons]
  refine wpAny_bind (wpAny_bind (m := nsGet D (Str.ofString "key")) (wpAny_nsGet hn ?_))
  rw [hk]
  refine wpAny_pure ?_
  exact wpAny_pure (wpAny_pure hq)
theorem bind2k_1 (H : BisDflt s.heap dV kV) : ∃ t, ∀ pm cd doc, BindsTo s (bisFd 1 nm dV kV pm cd doc) ⟨[v, x], [("key", key)]⟩ [("a", v), ("x", x), ("lo", .int 0 t), ("hi", .none), ("key", key)] := by
  obtain ⟨T, D, t, kd, o, n, rfl, rfl, ho, hd, hn, hk⟩ := H
  refine ⟨t, fun pm cd doc M A E Q hq => ?_⟩
  unfold bindArgs
  walk_at "bindk"
theorem bind4k_2 (H : BisDflt s.heap dV kV) : ∀ pm cd doc, BindsTo s (bisFd 2 nm dV kV pm cd doc) ⟨[v, x, lo, hi], [("key", key)]⟩ [("a", v), ("x", x), ("lo", lo), ("hi", hi), ("key", key)] := by
  obtain ⟨T, D, t, kd, o, n, rfl, rfl, ho, hd, hn, hk⟩ := H
  refine fun pm cd doc M A E Q hq => ?_
  unfold bindArgs
  walk_at "bindk"
theorem bind3k_2 (H : BisDflt s.heap dV kV) : ∀ pm cd doc, BindsTo s (bisFd 2 nm dV kV pm cd doc) ⟨[v, x, lo], [("key", key)]⟩ [("a", v), ("x", x), ("lo", lo), ("hi", .none), ("key", key)] := by
  obtain ⟨T, D, t, kd, o, n, rfl, rfl, ho, hd, hn, hk⟩ := H
  refine fun pm cd doc M A E Q hq => ?_
  unfold bindArgs
  walk_at "bindk"
end
end Mine

namespace Mine
local macro_rules | `(tactic| walk_at "lk") => `(tactic| first | with_reducible assumption | exact upd_self | (refine (upd_ne (by decide)).trans ?_; walk_at "lk"))

theorem bl_call {w : World} {A : Around} {E : Value → Shared → Prop} {s : Shared} {l : Addr} {ad : Nat → Addr} {mg mb : Str → Option Value} {ps : List WT} {x : List Nat} {tx : Tok} {Q : Value → Shared → Prop}
    (G : Gnd ad mg mb s.heap) (hA : A.depth < recursionLimit) (hl : s.heap.IsList l (ps.map sv).toArray) (hn : ps.length < 1000000)
    (hs : ∀ i j (_ : i < ps.length) (_ : j < ps.length), i ≤ j → ps[j].1 < x → ps[i].1 < x)
    (h : ∀ h' tk t k, (∀ b o, s.heap.get? b = some o → h'.get? b = some o) → Bis (fun i => ∃ h : i < ps.length, ps[i].1 < x) 0 ps.length k k → Q (.int (k : Nat) t) { s with heap := h', toks := tk }) :
    wpAny (model P0 w) A (call (.ref (ad 3)) [.ref l, .str (S x) tx] []) Q E s := by
  obtain ⟨_, dV, kV, hf, hd⟩ := G.bis (3, "bisect_left") (by decide)
  obtain ⟨t, hb⟩ := bind2_3 (nm := "bisect_left") (v := .ref l) (x := .str (S x) tx) hd
  refine enter hf G.nolimit hA hb fun h₁ cd hns hk => ?_
  exact bl_body (Loc.start hns hk) News.nil G hl hn rfl rfl rfl rfl rfl hs fun h' tk t m' k F' _ b => h _ _ _ _ F'.keep b

set_option maxHeartbeats 1000000 in
theorem br_body {w : World} {A : Around} {s : Shared} {B : Heap} {L a l : Addr} {cd : Value} {ad : Nat → Addr} {mg mb m : Str → Option Value} {led : List (Addr × Obj)} {ps : List WT} {x : List Nat} {tx t0 : Tok} {Q : Flow → Shared → Prop}
    (F : Loc B L s.heap m) (N : News B L s.heap led) (G : Gnd ad mg mb B) (hl : B.IsList l (ps.map sv).toArray) (hn : ps.length < 1000000)
    (ma : m "a" = some (.ref l)) (mx : m "x" = some (.str (S x) tx)) (mlo : m "lo" = some (.int 0 t0)) (mhi : m "hi" = some .none) (mk : m "key" = some .none)
    (hs : ∀ i j (_ : i < ps.length) (_ : j < ps.length), i ≤ j → ¬ x < ps[j].1 → ¬ x < ps[i].1)
    (h : ∀ h' tk t m' k, Loc B L h' m' → News B L h' led → Bis (fun i => ∃ h : i < ps.length, ¬ x < ps[i].1) 0 ps.length k k → Q (.ret (.int (k : Nat) t)) { s with heap := h', toks := tk }) :
    wpAny (model P0 w) A (execs (body 2) (envOf "bisect_right" (sco 2) L a cd)) Q NoE s := by
  refine wpAny_execs_cons ?_
  refine wpAny_If (wpAny_isTrue_Compare1 (ldv F mlo (wpAny_Constant_int (wpAny_lt_int (wpAny_truthy_bool ?_)))))
  rw [if_neg (by decide)]
  refine wpAny_execs_nil ?_
  refine wpAny_execs_cons ?_
  refine wpAny_If (wpAny_isTrue_Compare1 (ldv F mhi (wpAny_Constant_none (is_none_none (wpAny_truthy_bool ?_)))))
  rw [if_pos rfl]
  refine wpAny_execs_cons (wpAny_Assign_Name (Call_Name1 (ldb F G boot_len ?_)))
  refine callWith_builtin1 (ldv F ma (len_list (F.lst hl) (by simp; omega) ?_))
  refine stv F N fun h₁ _ F₁ N₁ => wpAny_execs_nil ?_
  refine wpAny_execs_cons ?_
  refine wpAny_If (wpAny_isTrue_Compare1 (ldv F₁ (by walk_at "lk") (wpAny_Constant_none (is_none_none (wpAny_truthy_bool ?_)))))
  rw [if_pos rfl]
  refine wpAny_execs_cons ?_
  dsimp only at F₁ ⊢
  have mono : ∀ i j, i ≤ j → j < ps.length → (∃ h : j < ps.length, ¬ x < ps[j].1) → ∃ h : i < ps.length, ¬ x < ps[i].1 := fun i j q hj e => e.elim fun hj' e => ⟨Nat.lt_of_le_of_lt q hj, hs i j (Nat.lt_of_le_of_lt q hj) hj q e⟩
  refine while_gen (fun n s' => BisW s B L led l (.str (S x) tx) none (fun i => ∃ h : i < ps.length, ¬ x < ps[i].1) 0 ps.length n s')
    (n := ps.length) ⟨_, _, _, 0, ps.length, _, _, rfl, F₁, N₁, by walk_at "lk", by walk_at "lk", .inl rfl, (upd_ne (by decide)).trans mlo, (by refine upd_self.trans ?_; simp; rfl), rfl, Bis.start (Nat.zero_le _)⟩ ?_
  rintro n s' ⟨h', tk, m', lo, hi, t1, t2, rfl, F', N', a', x', -, lo', hi', rfl, bb⟩
  refine wpAny_isTrue_Compare1 (ldv F' lo' (ldv F' hi' (wpAny_lt_int (wpAny_truthy_bool ?_))))
  by_cases hlt : lo < hi
  · rw [if_pos (by simpa using hlt)]
    obtain ⟨b1, b2⟩ := bis_mid hlt
    have b3 := bb.h
    refine wpAny_execs_cons (wpAny_Assign_Name (wpAny_BinOp (wpAny_BinOp (ldv F' lo' (ldv F' hi' (wpAny_add_int (wpAny_Constant_int (floordiv_int (by decide) ?_ (.inl (PyProof.noPylong_of_log2 (by decide +kernel)))))))))))
    rw [fdiv_mid]
    refine stv F' N' fun h₂ _ F₂ N₂ => ?_
    dsimp only at F₂ ⊢
    have hm : (lo + hi) / 2 < ps.length := by omega
    refine wpAny_execs_cons (wpAny_If (wpAny_isTrue_Compare1 (ldv F₂ (by walk_at "lk") (Subscript_ (ldv F₂ (by walk_at "lk") (ldv F₂ (by walk_at "lk") (item_list (x := sv ps[(lo + hi) / 2]) (F₂.lst hl) (by omega) (by omega) (by rw [Int.toNat_natCast]; simp [hm]) ?_)))))))
    refine lt_str (wpAny_truthy_bool ?_)
    show if decide (x < ps[(lo + hi) / 2].1) = true then _ else _
    by_cases hc : x < ps[(lo + hi) / 2].1
    · rw [if_pos (by simpa using hc)]
      refine wpAny_execs_cons (wpAny_Assign_Name (ldv F₂ (by walk_at "lk") (stv F₂ N₂ fun h₃ _ F₃ N₃ => wpAny_execs_nil (wpAny_execs_nil ?_))))
      dsimp only at F₃ ⊢
      exact ⟨(lo + hi) / 2 - lo, by omega, h₃, _, _, lo, (lo + hi) / 2, _, _, rfl, F₃, N₃, by walk_at "lk", by walk_at "lk", .inl rfl, by walk_at "lk", upd_self, rfl, bb.down mono hlt fun q => q.elim fun _ q => q hc⟩
    · rw [if_neg (by simpa using hc)]
      refine wpAny_execs_cons (wpAny_Assign_Name (wpAny_BinOp (ldv F₂ (by walk_at "lk") (wpAny_Constant_int (wpAny_add_int (stv F₂ N₂ fun h₃ _ F₃ N₃ => wpAny_execs_nil (wpAny_execs_nil ?_)))))))
      dsimp only at F₃ ⊢
      exact ⟨hi - ((lo + hi) / 2 + 1), by omega, h₃, _, _, (lo + hi) / 2 + 1, hi, _, _, rfl, F₃, N₃, by walk_at "lk", by walk_at "lk", .inl rfl, upd_self.trans (by simp; rfl), by walk_at "lk", rfl, bb.up mono hlt ⟨hm, hc⟩⟩
  · rw [if_neg (by simpa using hlt)]
    have e : lo = hi := by have := bb.m; omega
    subst e
    exact wpAny_execs_nil (wpAny_execs_cons (wpAny_Return_some (ldv F' lo' (h _ _ _ _ _ F' N' bb))))

theorem br_call2 {w : World} {A : Around} {E : Value → Shared → Prop} {s : Shared} {l : Addr} {ad : Nat → Addr} {mg mb : Str → Option Value} {ps : List WT} {x : List Nat} {tx : Tok} {Q : Value → Shared → Prop}
    (G : Gnd ad mg mb s.heap) (hA : A.depth < recursionLimit) (hl : s.heap.IsList l (ps.map sv).toArray) (hn : ps.length < 1000000)
    (hs : ∀ i j (_ : i < ps.length) (_ : j < ps.length), i ≤ j → ¬ x < ps[j].1 → ¬ x < ps[i].1)
    (h : ∀ h' tk t k, (∀ b o, s.heap.get? b = some o → h'.get? b = some o) → Bis (fun i => ∃ h : i < ps.length, ¬ x < ps[i].1) 0 ps.length k k → Q (.int (k : Nat) t) { s with heap := h', toks := tk }) :
    wpAny (model P0 w) A (call (.ref (ad 2)) [.ref l, .str (S x) tx] []) Q E s := by
  obtain ⟨_, dV, kV, hf, hd⟩ := G.bis (2, "bisect_right") (by decide)
  obtain ⟨t, hb⟩ := bind2_2 (nm := "bisect_right") (v := .ref l) (x := .str (S x) tx) hd
  refine enter hf G.nolimit hA hb fun h₁ cd hns hk => ?_
  exact br_body (Loc.start hns hk) News.nil G hl hn rfl rfl rfl rfl rfl hs fun h' tk t m' k F' _ b => h _ _ _ _ F'.keep b
theorem br_call4 {w : World} {A : Around} {E : Value → Shared → Prop} {s : Shared} {l : Addr} {ad : Nat → Addr} {mg mb : Str → Option Value} {ps : List WT} {x : List Nat} {tx t0 : Tok} {Q : Value → Shared → Prop}
    (G : Gnd ad mg mb s.heap) (hA : A.depth < recursionLimit) (hl : s.heap.IsList l (ps.map sv).toArray) (hn : ps.length < 1000000)
    (hs : ∀ i j (_ : i < ps.length) (_ : j < ps.length), i ≤ j → ¬ x < ps[j].1 → ¬ x < ps[i].1)
    (h : ∀ h' tk t k, (∀ b o, s.heap.get? b = some o → h'.get? b = some o) → Bis (fun i => ∃ h : i < ps.length, ¬ x < ps[i].1) 0 ps.length k k → Q (.int (k : Nat) t) { s with heap := h', toks := tk }) :
    wpAny (model P0 w) A (call (.ref (ad 2)) [.ref l, .str (S x) tx, .int 0 t0, .none] []) Q E s := by
  obtain ⟨_, dV, kV, hf, hd⟩ := G.bis (2, "bisect_right") (by decide)
  refine enter hf G.nolimit hA (bind4_2 (nm := "bisect_right") hd) fun h₁ cd hns hk => ?_
  exact br_body (Loc.start hns hk) News.nil G hl hn rfl rfl rfl rfl rfl hs fun h' tk t m' k F' _ b => h _ _ _ _ F'.keep b

set_option maxHeartbeats 1000000 in
theorem brk_body {w : World} {A : Around} {s : Shared} {B : Heap} {L a l kf : Addr} {cd xv : Value} {ad : Nat → Addr} {mg mb m : Str → Option Value} {led : List (Addr × Obj)} {vs : List Value} {lo0 : Nat} {t0 : Tok} {p : Nat → Prop} {Q : Flow → Shared → Prop} {ko : Obj} {kfd : FuncData}
    (F : Loc B L s.heap m) (N : News B L s.heap led) (G : Gnd ad mg mb B) (hl : B.IsList l vs.toArray) (hn : vs.length < 1000000) (hlo : lo0 ≤ vs.length)
    (ma : m "a" = some (.ref l)) (mx : m "x" = some xv) (mlo : m "lo" = some (.int (lo0 : Nat) t0)) (mhi : m "hi" = some .none) (mk : m "key" = some (.ref kf))
    (hko : B.get? kf = some ko) (hkd : ko.data = .func kfd)
    (hkey : ∀ (s' : Shared) i (hi : i < vs.length) (Q' : Value → Shared → Prop), (∀ b o, B.get? b = some o → s'.heap.get? b = some o) →
      (∀ h' tk v, (∀ b o, s'.heap.get? b = some o → h'.get? b = some o) → (∀ (s'' : Shared) (Q'' : Value → Shared → Prop) (c : Bool), (c = true ↔ ¬ p i) → Q'' (.bool c) s'' → wpAny (model P0 w) A (compareOp .Lt xv v) Q'' NoE s'') → Q' v { s' with heap := h', toks := tk }) →
      wpAny (model P0 w) A (call (.ref kf) [vs[i]] []) Q' NoE s')
    (mono : ∀ i j, i ≤ j → j < vs.length → p j → p i)
    (h : ∀ h' tk t m' k, Loc B L h' m' → News B L h' led → Bis p lo0 vs.length k k → Q (.ret (.int (k : Nat) t)) { s with heap := h', toks := tk }) :
    wpAny (model P0 w) A (execs (body 2) (envOf "bisect_right" (sco 2) L a cd)) Q NoE s := by
  refine wpAny_execs_cons ?_
  refine wpAny_If (wpAny_isTrue_Compare1 (ldv F mlo (wpAny_Constant_int (wpAny_lt_int (wpAny_truthy_bool ?_)))))
  rw [if_neg (by simp)]
  refine wpAny_execs_nil ?_
  refine wpAny_execs_cons ?_
  refine wpAny_If (wpAny_isTrue_Compare1 (ldv F mhi (wpAny_Constant_none (is_none_none (wpAny_truthy_bool ?_)))))
  rw [if_pos rfl]
  refine wpAny_execs_cons (wpAny_Assign_Name (Call_Name1 (ldb F G boot_len ?_)))
  refine callWith_builtin1 (ldv F ma (len_list (F.lst hl) (by simp; omega) ?_))
  refine stv F N fun h₁ _ F₁ N₁ => wpAny_execs_nil ?_
  refine wpAny_execs_cons ?_
  refine wpAny_If (wpAny_isTrue_Compare1 (ldv F₁ (by walk_at "lk") (wpAny_Constant_none (is_none_ne (fun e => by cases e) (wpAny_truthy_bool ?_)))))
  rw [if_neg Bool.false_ne_true]
  refine wpAny_execs_cons ?_
  dsimp only at F₁ ⊢
  refine while_gen (fun n s' => BisW s B L led l xv (some (.ref kf)) p lo0 vs.length n s')
    (n := vs.length - lo0) ⟨_, _, _, lo0, vs.length, _, _, rfl, F₁, N₁, by walk_at "lk", by walk_at "lk", .inr (by walk_at "lk"), (upd_ne (by decide)).trans mlo, (by refine upd_self.trans ?_; simp; rfl), rfl, Bis.start hlo⟩ ?_
  rintro n s' ⟨h', tk, m', lo, hi, t1, t2, rfl, F', N', a', x', key', lo', hi', rfl, bb⟩
  replace key' := key'.resolve_left (Option.some_ne_none _)
  refine wpAny_isTrue_Compare1 (ldv F' lo' (ldv F' hi' (wpAny_lt_int (wpAny_truthy_bool ?_))))
  by_cases hlt : lo < hi
  · rw [if_pos (by simpa using hlt)]
    obtain ⟨b1, b2⟩ := bis_mid hlt
    have b3 := bb.h
    refine wpAny_execs_cons (wpAny_Assign_Name (wpAny_BinOp (wpAny_BinOp (ldv F' lo' (ldv F' hi' (wpAny_add_int (wpAny_Constant_int (floordiv_int (by decide) ?_ (.inl (PyProof.noPylong_of_log2 (by decide +kernel)))))))))))
    rw [fdiv_mid]
    refine stv F' N' fun h₂ _ F₂ N₂ => ?_
    dsimp only at F₂ ⊢
    have hm : (lo + hi) / 2 < vs.length := by omega
    refine wpAny_execs_cons (wpAny_If (wpAny_isTrue_Compare1 (ldv F₂ (by walk_at "lk") (Call_Name1 (ldv F₂ (by walk_at "lk") ?_)))))
    refine callWith_function_kw (o := ko) (fd := kfd) (evalArgs_kw rfl (spliced_cons (Subscript_ (ldv F₂ (by walk_at "lk") (ldv F₂ (by walk_at "lk") (item_list (x := vs[(lo + hi) / 2]) (F₂.lst hl) (by omega) (by omega) (by rw [Int.toNat_natCast]; simp [hm]) ?_))))))
    refine spliced_nil (wpAny_evalAll_nil ⟨⟨F₂.keep _ _ hko, hkd⟩, ?_⟩)
    refine hkey _ ((lo + hi) / 2) hm _ F₂.keep fun h₃ tk₃ v hk₃ hcmp => ?_
    have F₃ := F₂.grow hk₃
    have N₃ := News.grow' N₂ hk₃
    refine hcmp _ _ (@decide (¬ p ((lo + hi) / 2)) (Classical.propDecidable _)) (by simp) (wpAny_truthy_bool ?_)
    dsimp only at F₃ N₃ ⊢
    by_cases hc : p ((lo + hi) / 2)
    · rw [if_neg (by simpa using hc)]
      refine wpAny_execs_cons (wpAny_Assign_Name (wpAny_BinOp (ldv F₃ (by walk_at "lk") (wpAny_Constant_int (wpAny_add_int (stv F₃ N₃ fun h₃ _ F₃ N₃ => wpAny_execs_nil (wpAny_execs_nil ?_)))))))
      dsimp only at F₃ ⊢
      exact ⟨hi - ((lo + hi) / 2 + 1), by omega, h₃, _, _, (lo + hi) / 2 + 1, hi, _, _, rfl, F₃, N₃, by walk_at "lk", by walk_at "lk", .inr (by walk_at "lk"), upd_self.trans (by simp; rfl), by walk_at "lk", rfl, bb.up mono hlt hc⟩
    · rw [if_pos (by simpa using hc)]
      refine wpAny_execs_cons (wpAny_Assign_Name (ldv F₃ (by walk_at "lk") (stv F₃ N₃ fun h₃ _ F₃ N₃ => wpAny_execs_nil (wpAny_execs_nil ?_))))
      dsimp only at F₃ ⊢
      exact ⟨(lo + hi) / 2 - lo, by omega, h₃, _, _, lo, (lo + hi) / 2, _, _, rfl, F₃, N₃, by walk_at "lk", by walk_at "lk", .inr (by walk_at "lk"), by walk_at "lk", upd_self, rfl, bb.down mono hlt hc⟩
  · rw [if_neg (by simpa using hlt)]
    have e : lo = hi := by have := bb.m; omega
    subst e
    exact wpAny_execs_nil (wpAny_execs_cons (wpAny_Return_some (ldv F' lo' (h _ _ _ _ _ F' N' bb))))
end Mine

namespace Mine
local macro_rules | `(tactic| walk_at "lk") => `(tactic| first | with_reducible assumption | exact upd_self | (refine (upd_ne (by decide)).trans ?_; walk_at "lk") | exact rfl)

theorem line_ok {k : Nat} (h : k < 1000000) : k ≤ sizeLine := Nat.le_trans (Nat.le_of_lt h) (by decide +kernel)
section
variable {w : World} {A : Around} {E : Value → Shared → Prop} {s : Shared} {D : Addr} {li : List Value} {n : Nat}

theorem seq_turn {h : Heap} {its' : Array Value} (ho : h.get? D = some (listOf li.toArray n)) (f : Array Value → Array Value) (he : f li.toArray = its') (hs : its'.size ≠ li.length) :
    (h.update D (Obj.mapSeq f)).get? D = some (listOf its' (n + 1)) := by
  have q := PySem.IsL.update ho f
  rw [he, if_neg (by simpa using hs)] at q
  exact q

theorem append_to {y : Value} {Q : Value → Shared → Prop} (ho : s.heap.get? D = some (listOf li.toArray n)) (hz : li.length ≤ sizeLine)
    (h : ∀ h', Heap.SameBut D s.heap h' → h'.get? D = some (listOf (li ++ [y]).toArray (n + 1)) → Q .none { s with heap := h' }) :
    wpAny (model P0 w) A (call (.builtin "list.append") [.ref D, y]) Q E s :=
  append_at ho (fun h' hs ho' => h h' hs (by rw [ho']; simp)) (by simpa using hz)

theorem insert_to {x : Nat} {z : Int} {u : Tok} {y : Value} {Q : Value → Shared → Prop} (ho : s.heap.get? D = some (listOf li.toArray n)) (hzx : z = (x : Int)) (hx : x ≤ li.length) (hz : li.length < 1000000)
    (h : ∀ h', Heap.SameBut D s.heap h' → h'.get? D = some (listOf (li.take x ++ y :: li.drop x).toArray (n + 1)) → Q .none { s with heap := h' }) :
    wpAny (model P0 w) A (call (.builtin "list.insert") [.ref D, .int z u, y]) Q E s := by
  have hf : Builtin.List.listFitsIndex z = true := by
    unfold Builtin.List.listFitsIndex
    simp only [Bool.and_eq_true, decide_eq_true_eq]
    omega
  have hz' : li.length ≤ sizeLine := line_ok hz
  refine call_meets PySem.F.slot_list_insert ⟨_, ho, rfl⟩ PySem.F.entry_list_insert (PySem.F.args_list_insert_3 _ _ _) (PySem.AutoSeq1.list_insert_list_int_val_1 D _ n z u y (by simp [hf]) (by rw [List.size_toArray]; exact hz')) ⟨ho, h _ (Heap.SameBut.update ..) (seq_turn ho _ ?_ ?_)⟩
  · show (li.toArray.extract 0 (if z < 0 then (z + (li.toArray.size : Int)).toNat else min z.toNat li.toArray.size)).push y ++ li.toArray.extract (if z < 0 then (z + (li.toArray.size : Int)).toNat else min z.toNat li.toArray.size) = _
    subst hzx
    rw [if_neg (by omega), Int.toNat_natCast, List.size_toArray, Nat.min_eq_left hx]
    exact kl_ins_eq li x y
  · rw [List.size_toArray, List.length_append, List.length_cons, List.length_take, List.length_drop]
    omega

theorem popAt_of {z : Int} {u : Tok} {p q : List Value} {y : Value} {Q : Value → Shared → Prop} (ho : s.heap.get? D = some (listOf (p ++ y :: q).toArray n)) (hk : z = (p.length : Int)) (hz : (p ++ y :: q).length < 1000000)
    (h : ∀ h', Heap.SameBut D s.heap h' → h'.get? D = some (listOf (p ++ q).toArray (n + 1)) → Q y { s with heap := h' }) :
    wpAny (model P0 w) A (call (.builtin "list.pop") [.ref D, .int z u]) Q E s := by
  have hf : Builtin.List.listFitsIndex z = true := by
    unfold Builtin.List.listFitsIndex
    simp only [Bool.and_eq_true, decide_eq_true_eq]
    simp at hz
    omega
  have hz' : (p ++ y :: q).toArray.size ≤ sizeLine := by rw [List.size_toArray]; exact line_ok hz
  have hy : (p ++ y :: q).toArray[p.length]? = some y := by simp
  have hi : seqIndex? z (p ++ y :: q).toArray.size = some p.length := by
    subst hk
    unfold seqIndex?
    simp
    omega
  refine call_meets PySem.F.slot_list_pop ⟨_, ho, rfl⟩ PySem.F.entry_list_pop (PySem.F.args_list_pop_2 _ _) (PySem.MeetsSeq.list_pop_at D _ n z u _ y hf hi hy hz') ⟨ho, h _ (Heap.SameBut.update ..) (seq_turn ho _ (kl_erase p q y) ?_)⟩
  rw [List.size_toArray, List.length_append, List.length_append, List.length_cons]
  omega

theorem pop_of {p : List Value} {y : Value} {Q : Value → Shared → Prop} (ho : s.heap.get? D = some (listOf (p ++ [y]).toArray n)) (hz : (p ++ [y]).length < 1000000)
    (h : ∀ h', Heap.SameBut D s.heap h' → h'.get? D = some (listOf p.toArray (n + 1)) → Q y { s with heap := h' }) :
    wpAny (model P0 w) A (call (.builtin "list.pop") [.ref D]) Q E s := by
  have hz' : (p ++ [y]).toArray.size ≤ sizeLine := by rw [List.size_toArray]; exact line_ok hz
  have hk : (p ++ [y]).toArray.size - 1 = p.length := by rw [List.size_toArray, List.length_append]; rfl
  have hy : (p ++ [y]).toArray[(p ++ [y]).toArray.size - 1]? = some y := by rw [hk]; simp
  refine call_meets PySem.F.slot_list_pop ⟨_, ho, rfl⟩ PySem.F.entry_list_pop (PySem.F.args_list_pop_1 _) (PySem.MeetsSeq.list_pop_last D _ n y hy hz') ⟨ho, h _ (Heap.SameBut.update ..) (seq_turn ho _ ?_ ?_)⟩
  · show (p ++ [y]).toArray.eraseIdxIfInBounds ((p ++ [y]).toArray.size - 1) = p.toArray
    rw [hk, kl_erase, List.append_nil]
  · rw [List.size_toArray, List.length_append]
    simp

theorem lmeth {name : Str} {id : String} {pl : Sem Bool} {Q : Value × List Value → Shared → Prop} (ho : s.heap.get? D = some (listOf li.toArray n)) (slot : Slot "list" name id) (hty : typeOf (.builtin id) = pure (.type "method_descriptor"))
    (h : Q (.builtin id, [.ref D]) s) : wpAny (model P0 w) A (getMethod (.ref D) name pl) Q E s :=
  getMethod_builtin ⟨_, ho, rfl⟩ PySem.F.plainAttrs_list slot hty (fun a e => by cases e; exact ⟨_, ho, rfl⟩) h
end

theorem News.turn {B h h' : Heap} {L D : Addr} {o' : Obj} {pre post : List (Addr × Obj)} {o : Obj} (N : News B L h (pre ++ (D, o) :: post)) (hs : Heap.SameBut D h h') (ho : h'.get? D = some o')
    (h1 : ∀ p ∈ pre, p.1 ≠ D) (h2 : ∀ p ∈ post, p.1 ≠ D) : News B L h' (pre ++ (D, o') :: post) := news_set N h1 h2 hs ho

theorem Loc.hide {B h h₁ : Heap} {l : Addr} {m : Str → Option Value} (hB : ∀ b o, B.get? b = some o → h.get? b = some o) (hl : B.get? l = none) (hn : h₁.Ns h.objs.size m) (hk : ∀ b o, h.get? b = some o → h₁.get? b = some o) {o : Obj} (ho : h.get? l = some o) :
    Loc (h.hide l) h.objs.size h₁ m ∧ News (h.hide l) h.objs.size h₁ [(l, o)] ∧ ∀ b o, B.get? b = some o → (h.hide l).get? b = some o := by
  have e : h.get? h.objs.size = none := by
    cases q : h.get? h.objs.size with
    | none => rfl
    | some o => exact absurd (Heap.lt_size q) (Nat.lt_irrefl _)
  refine ⟨⟨hn, fun b o e => hk b o (Heap.of_hide e), ?_⟩, fun p hp => ?_, fun b o e => ?_⟩
  · cases q : (h.hide l).get? h.objs.size with
    | none => rfl
    | some o => rw [Heap.of_hide q] at e; cases e
  · simp at hp; subst hp
    exact ⟨hk _ _ ho, Nat.ne_of_lt (Heap.lt_size ho), Heap.hide_self h l⟩
  · rw [Heap.hide_ne h (fun q => by rw [q, hl] at e; cases e)]
    exact hB b o e

set_option maxHeartbeats 1000000 in
theorem ir_call {w : World} {A : Around} {E : Value → Shared → Prop} {s : Shared} {B : Heap} {l : Addr} {n : Nat} {ad : Nat → Addr} {mg mb : Str → Option Value} {ps : List WT} {x : List Nat} {tx : Tok} {Q : Value → Shared → Prop}
    (G : Gnd ad mg mb B) (hB : ∀ b o, B.get? b = some o → s.heap.get? b = some o) (hBl : B.get? l = none) (hA : A.depth + 1 < recursionLimit) (hl : s.heap.get? l = some (listOf (ps.map sv).toArray n)) (hn : ps.length < 1000000)
    (hs : ∀ i j (_ : i < ps.length) (_ : j < ps.length), i ≤ j → ¬ x < ps[j].1 → ¬ x < ps[i].1)
    (h : ∀ h' tk k n', Heap.ExtBut l s.heap h' → k ≤ ps.length → Bis (fun i => ∃ h : i < ps.length, ¬ x < ps[i].1) 0 ps.length k k → h'.get? l = some (listOf ((ps.take k ++ (x, tx) :: ps.drop k).map sv).toArray n') → Q .none { s with heap := h', toks := tk }) :
    wpAny (model P0 w) A (call (.ref (ad 1)) [.ref l, .str (S x) tx] []) Q E s := by
  obtain ⟨_, dV, kV, hf, hd⟩ := G.bis (1, "insort_right") (by decide)
  obtain ⟨t, hb⟩ := bind2_1 (s := s) (nm := "insort_right") (v := .ref l) (x := .str (S x) tx) (hd.keeps hB)
  refine enter (hf.keeps hB) (G.nolimit.keeps hB) (Nat.lt_of_succ_lt hA) hb fun h₁ cd hns hk => ?_
  obtain ⟨F, N, hB'⟩ := Loc.hide hB hBl hns hk hl
  replace G := G.keeps hB'
  obtain ⟨e2, dV', kV', hf', hd'⟩ := G.bis (2, "bisect_right") (by decide)
  refine wpAny_execs_cons (wpAny_If (wpAny_isTrue_Compare1 (ldv F rfl (wpAny_Constant_none (is_none_none (wpAny_truthy_bool ?_))))))
  rw [if_pos rfl]
  refine wpAny_execs_cons (wpAny_Assign_Name (Call_Name rfl (ldg F G e2 (callFn hf' ?_))))
  refine spliced_cons (ldv F rfl (spliced_cons (ldv F rfl (spliced_cons (ldv F rfl (spliced_cons (ldv F rfl (spliced_nil (wpAny_evalAll_nil ⟨F.keep, ?_⟩)))))))))
  refine br_call4 (G.keeps F.keep) hA ⟨_, N.get (.head _), rfl, _, rfl⟩ hn hs fun h₂ tk₂ t₂ k hk₂ bb => ?_
  have F₂ := F.grow hk₂
  have N₂ := News.grow' N hk₂
  refine stv F₂ N₂ fun h₃ _ F₃ N₃ => wpAny_execs_nil (wpAny_execs_cons (wpAny_Expr_any (MethodCall_ (ldv F₃ (by walk_at "lk") (lmeth (N₃.get (.head _)) PySem.F.slot_list_insert PySem.F.type_list_insert ?_)))))
  refine Calls.callWith_builtin rfl (Calls.evalArgs_plain (spliced_cons (ldv F₃ (by walk_at "lk") (spliced_cons (ldv F₃ (by walk_at "lk") (spliced_nil ?_))))))
  have hkl := bb.h
  refine insert_to (N₃.get (.head _)) rfl (by simpa using hkl) (by simpa using hn) fun h₄ hs₄ ho₄ => wpAny_execs_nil ?_
  refine h h₄ _ k (n + 1) (fun b o hb' e => ?_) hkl bb (by rw [ho₄]; simp [List.map_take, List.map_drop])
  refine (F₃.change hs₄ (N₃ _ (.head _)).2.1 (N₃ _ (.head _)).2.2).keep b o ?_
  rw [Heap.hide_ne _ hb']
  exact e
end Mine

namespace Mine
local macro_rules | `(tactic| walk_at "lk") => `(tactic| first | with_reducible assumption | exact upd_self | (refine (upd_ne (by decide)).trans ?_; walk_at "lk") | exact rfl)

theorem Rm.deep {A : Around} {k : Nat} (R : Rm A (k + 1)) (env : Env) : Rm (A.deeper env) k :=
  ⟨by have := R.depth; show A.depth + 1 + k < _; omega, by have := R.units; show A.units + 3 + 3 * k + 100 < _; omega, R.handled⟩
theorem Rm.low {A : Around} {k : Nat} (R : Rm A (k + 1)) : Rm A k := ⟨by have := R.depth; omega, by have := R.units; omega, R.handled⟩
theorem Rm.d {A : Around} {k : Nat} (R : Rm A k) : A.depth < recursionLimit := by have := R.depth; omega
theorem Rm.u {A : Around} {k : Nat} (R : Rm A k) : A.units + 64 < cLine := by have := R.units; omega

noncomputable abbrev Grown (h h' : Heap) : Prop := ∀ b o, h.get? b = some o → h'.get? b = some o
theorem Grown.push (h : Heap) (o : Obj) : Grown h (h.push o) := fun _ _ e => Heap.get?_push_of_some _ e
theorem Grown.trans {h h' h'' : Heap} (a : Grown h h') (b : Grown h' h'') : Grown h h'' := fun x o e => b x o (a x o e)
theorem get_size (h : Heap) : h.get? h.objs.size = none := by
  cases q : h.get? h.objs.size with
  | none => rfl
  | some o => exact absurd (Heap.lt_size q) (Nat.lt_irrefl _)
theorem get_above {h : Heap} {r : Addr} (q : h.objs.size ≤ r) : h.get? r = none := by
  cases e : h.get? r with
  | none => rfl
  | some o => exact absurd (Heap.lt_size e) (Nat.not_lt.mpr q)

theorem News.join {B h h' : Heap} {L r : Addr} {m : Str → Option Value} {led : List (Addr × Obj)} {o : Obj} (F : Loc B L h m) (N : News B L h led) (k : Grown h h') (hr : h.get? r = none) (ho : h'.get? r = some o) : News B L h' ((r, o) :: led) := by
  intro p hp
  rcases List.mem_cons.mp hp with rfl | hp
  · refine ⟨ho, fun q => ?_, ?_⟩
    · obtain ⟨oL, _, _, hL, _⟩ := F.ns
      rw [← q] at hL; rw [hr] at hL; cases hL
    · cases q : B.get? r with
      | none => rfl
      | some o' => rw [F.keep _ _ q] at hr; cases hr
  · exact ⟨k _ _ (N p hp).1, (N p hp).2⟩
theorem News.tail' {B h : Heap} {L : Addr} {led : List (Addr × Obj)} {p : Addr × Obj} (N : News B L h (p :: led)) : News B L h led := fun q hq => N q (.tail _ hq)
theorem News.ne {B h : Heap} {L r : Addr} {led : List (Addr × Obj)} (N : News B L h led) (hr : h.get? r = none) : ∀ p ∈ led, p.1 ≠ r := fun p hp q => by
  have := (N p hp).1; rw [q, hr] at this; cases this

section
variable {w : World} {A : Around} {E : Value → Shared → Prop} {s : Shared} {env : Env}

theorem sub_any {value slice : Expr} {pos : Pos} {Q : Value → Shared → Prop}
    (h : wpAny (model P0 w) A (eval value env) (fun o s₁ => wpAny (model P0 w) A (eval slice env) (fun i s₂ => wpAny (model P0 w) A (subscriptTail (.Name "x" ⟨0, 0, 0, 0⟩) slice o i) Q E s₂) E s₁) E s) :
    wpAny (model P0 w) A (eval (.Subscript value slice pos) env) Q E s :=
  Subscript_ (wpAny_mono h (fun _ _ h₁ => wpAny_mono h₁ (fun _ _ h₂ => kba_turn (fun _ => rfl) h₂) fun _ _ e => e) fun _ _ e => e)

theorem sub_list {value : Expr} {lower upper : Option Expr} {p pos : Pos} {Q : Value → Shared → Prop}
    (h : wpAny (model P0 w) A (eval value env) (fun o s₁ => wpAny (model P0 w) A (evalPart lower env) (fun vl s₂ => wpAny (model P0 w) A (evalPart upper env) (fun vu s₃ =>
      ∃ l li lo hi, o = .ref l ∧ s₃.heap.IsList l (List.toArray li) ∧ li.length < 1000000 ∧ IsPart vl lo ∧ IsPart vu hi ∧
        ∀ h' r, Grown s₃.heap h' → s₃.heap.get? r = none → h'.get? r = some (listOf (slicePick li.toArray lo hi none) 0) → Q (.ref r) { s₃ with heap := h' }) E s₂) E s₁) E s) :
    wpAny (model P0 w) A (eval (.Subscript value (.Slice lower upper none p) pos) env) Q E s := by
  refine sub_any (wpAny_mono h (fun o s₁ h₁ => wpAny_Slice (wpAny_mono h₁ (fun vl s₂ h₂ => wpAny_mono h₂ (fun vu s₃ h₃ => wpAny_pure ?_) fun _ _ e => e) fun _ _ e => e)) fun _ _ e => e)
  obtain ⟨l, li, lo, hi, rfl, hl, hz, pl, pu, hq⟩ := h₃
  refine subscriptTail_ops (Heap.IsList.typeIs (s := { s₃ with heap := s₃.heap.push { cls := .type "slice", data := .fields #[vl, vu, .none] } }) (hl.push _)) list_getitem_lookup
    (wpAny_getItem_list_slice (hl.push _) (Heap.IsSliceOf.new ..) pl pu .none (by decide) ?_ (by rw [List.size_toArray]; exact line_ok hz)) rfl (fun _ => rfl)
  dsimp only
  rw [Heap.size_push]
  refine hq _ _ ((Grown.push _ _).trans (Grown.push _ _)) (get_above (Nat.le_succ _)) ?_
  have := Heap.get?_push_size (s₃.heap.push { cls := .type "slice", data := .fields #[vl, vu, .none] }) (o := listOf (slicePick li.toArray lo hi none) 0) rfl
  rwa [Heap.size_push] at this

theorem list_disp {elts : List Expr} {pos : Pos} {Q : Value → Shared → Prop}
    (h : wpAny (model P0 w) A (spliced (backTo pos (starEach elts env))) (fun vs s₁ => vs.length < 1000000 ∧ ∀ h' r, Grown s₁.heap h' → s₁.heap.get? r = none → h'.get? r = some (listOf vs.toArray 0) → Q (.ref r) { s₁ with heap := h' }) E s) :
    wpAny (model P0 w) A (eval (.List elts pos) env) Q E s :=
  List_ (wpAny_mono h (fun vs s₁ h₁ => wpAny_newObj_type (h₁.2 _ _ (Grown.push _ _) (get_size _) (Heap.get?_push_size _ rfl)) (by show vs.toArray.size ≤ sizeLine; rw [List.size_toArray]; exact line_ok h₁.1)) fun _ _ e => e)
noncomputable abbrev tupOf (its : Array Value) : Obj := { cls := .type "tuple", data := .seq its 0 }
theorem tup_disp {elts : List Expr} {k : Nat} {pos : Pos} {Q : Value → Shared → Prop}
    (h : wpAny (model P0 w) A (spliced (backTo pos (starEach elts env))) (fun vs s₁ => vs.length < 1000000 ∧ ∀ h' r, Grown s₁.heap h' → s₁.heap.get? r = none → h'.get? r = some (tupOf vs.toArray) → Q (.ref r) { s₁ with heap := h' }) E s) :
    wpAny (model P0 w) A (eval (.Tuple elts k pos) env) Q E s :=
  Tuple_ (wpAny_mono h (fun vs s₁ h₁ => wpAny_newObj_type (h₁.2 _ _ (Grown.push _ _) (get_size _) (Heap.get?_push_size _ rfl)) (by show vs.toArray.size ≤ sizeLine; rw [List.size_toArray]; exact line_ok h₁.1)) fun _ _ e => e)

end

theorem carried_strs : ∀ ps : List WT, CarriedAll (ps.map sv) (ps.map fun p => PyData.str (S p.1))
  | [] => .nil
  | _ :: r => .cons (.str _ _) (carried_strs r)
noncomputable def Cp (w : List Nat) : Prop := ∀ c ∈ w, c < 0x110000
noncomputable def Cps (ps : List WT) : Prop := ∀ p ∈ ps, Cp p.1
theorem canLay_strs : ∀ ps : List WT, Cps ps → PyData.canLayAll0 (ps.map fun p => PyData.str (S p.1)) = true
  | [], _ => rfl
  | p :: r, h => by
    have := h p (.head _)
    simp [PyData.canLayAll0, PyData.canLay0, canLay_strs r (fun q hq => h q (.tail _ hq)), PyData.strOk]
    exact this
theorem depth_strs : ∀ ps : List WT, PyData.depthAll (ps.map fun p => PyData.str (S p.1)) = 0
  | [] => rfl
  | _ :: r => by simp [PyData.depthAll, PyData.depth, depth_strs r]
theorem shaped_strs (ps : List WT) (h : Cps ps) : PySem.SeqAt.shaped (.list (ps.map fun p => PyData.str (S p.1))) = true := by
  simp [PySem.SeqAt.shaped, PyData.canLay0, PyData.depth, canLay_strs ps h, depth_strs]
theorem S_inj {a b : List Nat} : (S a = S b) = (a = b) := by simp
theorem same_strs : ∀ ps qs : List WT, PySem.Spec.sameAll (ps.map fun p => PyData.str (S p.1)) (qs.map fun p => PyData.str (S p.1)) = decide (ps.map (·.1) = qs.map (·.1)) := by
  intro ps
  induction ps with
  | nil => intro qs; cases qs <;> simp [PySem.Spec.sameAll]
  | cons a r ih =>
    intro qs
    cases qs with
    | nil => simp [PySem.Spec.sameAll]
    | cons b t =>
    simp only [List.map_cons, PySem.Spec.sameAll, PySem.Spec.same, ih t]
    by_cases h : a.1 = b.1 <;> by_cases h' : r.map (·.1) = t.map (·.1) <;> simp [h, h']
section
variable {w : World} {A : Around} {E : Value → Shared → Prop} {s : Shared} {a b : Addr} {ps qs : List WT} {Q : Value → Shared → Prop}
theorem ne_strs (ha : s.heap.IsList a (ps.map sv).toArray) (hb : s.heap.IsList b (qs.map sv).toArray) (hp : Cps ps) (hq : Cps qs) (hu : A.units + 64 < cLine) (h : Q (.bool (!decide (ps.map (·.1) = qs.map (·.1)))) s) :
    wpAny (model P0 w) A (compareOp .NotEq (.ref a) (.ref b)) Q E s :=
  PyProof.Rows.ne_dataH_same (reads_newData ha (carried_strs ps)) (reads_newData hb (carried_strs qs)) (shaped_strs ps hp) (shaped_strs qs hq) hu (PySem.SeqAt.noMix_of_shape (.list .str) rfl _ _ (list_map_has fun _ => rfl) (list_map_has fun _ => rfl)) (by
    have e : PySem.Spec.same (.list (ps.map fun p => PyData.str (S p.1))) (.list (qs.map fun p => PyData.str (S p.1))) = decide (ps.map (·.1) = qs.map (·.1)) := by
      simp only [PySem.Spec.same]; exact same_strs ps qs
    rw [e]; exact h)
theorem eq_strs (ha : s.heap.IsList a (ps.map sv).toArray) (hb : s.heap.IsList b (qs.map sv).toArray) (hp : Cps ps) (hq : Cps qs) (hu : A.units + 64 < cLine) (h : Q (.bool (decide (ps.map (·.1) = qs.map (·.1)))) s) :
    wpAny (model P0 w) A (compareOp .Eq (.ref a) (.ref b)) Q E s :=
  PyProof.Rows.eq_dataH_same (reads_newData ha (carried_strs ps)) (reads_newData hb (carried_strs qs)) (shaped_strs ps hp) (shaped_strs qs hq) hu (PySem.SeqAt.noMix_of_shape (.list .str) rfl _ _ (list_map_has fun _ => rfl) (list_map_has fun _ => rfl)) (by
    have e : PySem.Spec.same (.list (ps.map fun p => PyData.str (S p.1))) (.list (qs.map fun p => PyData.str (S p.1))) = decide (ps.map (·.1) = qs.map (·.1)) := by
      simp only [PySem.Spec.same]; exact same_strs ps qs
    rw [e]; exact h)
end
end Mine

namespace Mine
local macro_rules | `(tactic| walk_at "lk") => `(tactic| first | with_reducible assumption | exact upd_self | (refine (upd_ne (by decide)).trans ?_; walk_at "lk") | exact rfl)

noncomputable def putL (x : List Nat) (ws : List (List Nat)) : List (List Nat) := ws.filter (fun y => y < x) ++ x :: ws.filter (fun y => x < y)
noncomputable def Srt (ws : List (List Nat)) : Prop := ws.Pairwise (fun a b => a < b)

theorem lt_asymm' {a b : List Nat} (h : a < b) : ¬ b < a := fun q => List.lt_irrefl a (List.lt_trans h q)
theorem lt_or {a b : List Nat} (h : ¬ a < b) : b < a ∨ b = a := by
  have h1 := List.not_lt.mp h
  by_cases q : b < a
  · exact .inl q
  · exact .inr (List.le_antisymm h1 (List.not_lt.mp q))

theorem Srt.at {ws : List (List Nat)} (h : Srt ws) {i j : Nat} (hj : j < ws.length) (hij : i < j) : ws[i] < ws[j] := List.pairwise_iff_getElem.mp h i j (by omega) hj hij

theorem filter_cut {α : Type} (p : α → Bool) (l : List α) (k : Nat) (h1 : ∀ i (h : i < l.length), i < k → p l[i] = true) (h2 : ∀ i (h : i < l.length), k ≤ i → p l[i] = false) : l.filter p = l.take k := by
  conv => lhs; rw [← List.take_append_drop k l]
  rw [List.filter_append]
  have a : (l.take k).filter p = l.take k := by
    rw [List.filter_eq_self]
    intro x hx
    obtain ⟨i, hi, rfl⟩ := List.getElem_of_mem hx
    rw [List.getElem_take]
    rw [List.length_take] at hi
    exact h1 i (by omega) (by omega)
  have b : (l.drop k).filter p = [] := by
    rw [List.filter_eq_nil_iff]
    intro x hx
    obtain ⟨i, hi, rfl⟩ := List.getElem_of_mem hx
    rw [List.getElem_drop]
    rw [List.length_drop] at hi
    rw [h2 (k + i) (by omega) (by omega)]
    exact Bool.false_ne_true
  rw [a, b, List.append_nil]
theorem filter_cut' {α : Type} (p : α → Bool) (l : List α) (k : Nat) (h1 : ∀ i (h : i < l.length), i < k → p l[i] = false) (h2 : ∀ i (h : i < l.length), k ≤ i → p l[i] = true) : l.filter p = l.drop k := by
  conv => lhs; rw [← List.take_append_drop k l]
  rw [List.filter_append]
  have a : (l.drop k).filter p = l.drop k := by
    rw [List.filter_eq_self]
    intro x hx
    obtain ⟨i, hi, rfl⟩ := List.getElem_of_mem hx
    rw [List.getElem_drop]
    rw [List.length_drop] at hi
    exact h2 (k + i) (by omega) (by omega)
  have b : (l.take k).filter p = [] := by
    rw [List.filter_eq_nil_iff]
    intro x hx
    obtain ⟨i, hi, rfl⟩ := List.getElem_of_mem hx
    rw [List.getElem_take]
    rw [List.length_take] at hi
    rw [h1 i (by omega) (by omega)]
    exact Bool.false_ne_true
  rw [a, b, List.nil_append]

theorem place_lt {ws : List (List Nat)} {x : List Nat} {k : Nat} (b1 : ∀ i (h : i < ws.length), i < k → ws[i] < x) (b2 : ∀ i (h : i < ws.length), k ≤ i → ¬ ws[i] < x) : ws.filter (fun y => y < x) = ws.take k :=
  filter_cut _ _ _ (fun i h q => decide_eq_true (b1 i h q)) (fun i h q => decide_eq_false (b2 i h q))

theorem putL_in {ws : List (List Nat)} {x : List Nat} {k : Nat} (hs : Srt ws) (hk : k < ws.length) (e : ws[k] = x) : putL x ws = ws := by
  unfold putL
  rw [filter_cut (fun y => decide (y < x)) ws k (fun i h q => decide_eq_true (e ▸ hs.at hk q)) (fun i h q => decide_eq_false ?_), filter_cut' (fun y => decide (x < y)) ws (k + 1) (fun i h q => decide_eq_false ?_) (fun i h q => decide_eq_true (e ▸ hs.at h (by omega)))]
  · conv => rhs; rw [← List.take_append_drop k ws, List.drop_eq_getElem_cons hk, e]
  · rcases Nat.lt_or_ge i k with q' | q'
    · exact lt_asymm' (e ▸ hs.at hk q')
    · have : i = k := by omega
      subst this; rw [e]; exact List.lt_irrefl x
  · rcases Nat.lt_or_ge k i with q' | q'
    · exact lt_asymm' (e ▸ hs.at h q')
    · have : i = k := by omega
      subst this; rw [e]; exact List.lt_irrefl x
theorem putL_out {ws : List (List Nat)} {x : List Nat} {k : Nat} (hn : x ∉ ws) (b1 : ∀ i (h : i < ws.length), i < k → ¬ x < ws[i]) (b2 : ∀ i (h : i < ws.length), k ≤ i → x < ws[i]) : putL x ws = ws.take k ++ x :: ws.drop k := by
  unfold putL
  rw [filter_cut (fun y => decide (y < x)) ws k (fun i h q => decide_eq_true ?_) (fun i h q => decide_eq_false (lt_asymm' (b2 i h q))), filter_cut' (fun y => decide (x < y)) ws k (fun i h q => decide_eq_false (b1 i h q)) (fun i h q => decide_eq_true (b2 i h q))]
  rcases lt_or (b1 i h q) with c | c
  · exact c
  · exact absurd (c ▸ List.getElem_mem h) hn

theorem Srt.putL {ws : List (List Nat)} {x : List Nat} (hs : Srt ws) : Srt (putL x ws) := by
  unfold Mine.putL Srt
  rw [List.pairwise_append]
  refine ⟨hs.filter _, List.pairwise_cons.mpr ⟨fun a ha => of_decide_eq_true (List.mem_filter.mp ha).2, hs.filter _⟩, fun a ha b hb => ?_⟩
  have ha' := of_decide_eq_true (List.mem_filter.mp ha).2
  rcases List.mem_cons.mp hb with rfl | hb
  · exact ha'
  · exact List.lt_trans ha' (of_decide_eq_true (List.mem_filter.mp hb).2)
theorem mem_putL {ws : List (List Nat)} {x y : List Nat} : y ∈ putL x ws ↔ y = x ∨ y ∈ ws := by
  unfold putL
  rw [List.mem_append, List.mem_cons, List.mem_filter, List.mem_filter, decide_eq_true_eq, decide_eq_true_eq]
  constructor
  · rintro (h | h | h)
    · exact .inr h.1
    · exact .inl h
    · exact .inr h.1
  · rintro (h | h)
    · exact .inr (.inl h)
    · by_cases q : y < x
      · exact .inl ⟨h, q⟩
      · rcases lt_or q with c | c
        · exact .inr (.inr ⟨h, c⟩)
        · exact .inr (.inl c.symm)
theorem length_putL_le (ws : List (List Nat)) (x : List Nat) : (putL x ws).length ≤ ws.length + 1 := by
  unfold putL
  rw [List.length_append, List.length_cons]
  have : ∀ ws : List (List Nat), (ws.filter (fun y => decide (y < x))).length + (ws.filter (fun y => decide (x < y))).length ≤ ws.length := by
    intro ws
    induction ws with
    | nil => simp
    | cons a r ih =>
      by_cases h1 : a < x
      · have h2 := lt_asymm' h1
        simp [h1, h2]; omega
      · by_cases h2 : x < a <;> simp [h1, h2] <;> omega
  have := this ws
  omega
end Mine

namespace Mine
local macro_rules | `(tactic| walk_at "lk") => `(tactic| first | with_reducible assumption | exact upd_self | (refine (upd_ne (by decide)).trans ?_; walk_at "lk") | exact rfl)

theorem slice_one (li : List Value) (k : Nat) : slicePick li.toArray (some (k : Int)) (some ((k : Int) + 1)) none = ((li.drop k).take 1).toArray := by
  have := slicePick_plain li.toArray (some (k : Int)) (some (((k + 1 : Nat)) : Int))
  rw [show ((k : Int) + 1) = ((k + 1 : Nat) : Int) from rfl, this]
  simp only [Option.elim, clipAt_nat, List.size_toArray]
  congr 1
  rcases Nat.lt_or_ge k li.length with h | h
  · rw [Nat.min_eq_left (by omega), Nat.min_eq_left (by omega)]
    congr 1
    omega
  · rw [Nat.min_eq_right (by omega), Nat.min_eq_right (by omega), List.drop_of_length_le (Nat.le_refl _), List.drop_of_length_le h]
    simp

theorem Gnd.fnOf {ad : Nat → Addr} {mg mb : Str → Option Value} {h : Heap} (G : Gnd ad mg mb h) (i : Nat) (nm : Str) (hp : (i, nm) ∈ plainDefs) : mg nm = some (.ref (ad i)) ∧ FnIs h (ad i) i nm .none .none := G.fn (i, nm) hp
theorem Gnd.bisOf {ad : Nat → Addr} {mg mb : Str → Option Value} {h : Heap} (G : Gnd ad mg mb h) (i : Nat) (nm : Str) (hp : (i, nm) ∈ bisDefs) : mg nm = some (.ref (ad i)) ∧ ∃ dV kV, FnIs h (ad i) i nm dV kV ∧ BisDflt h dV kV := G.bis (i, nm) hp

theorem Loc.extBut {h h' : Heap} {L l : Addr} {m : Str → Option Value} (F : Loc (h.hide l) L h' m) : Heap.ExtBut l h h' := fun b o hb e => F.keep b o (by rw [Heap.hide_ne _ hb]; exact e)

set_option maxHeartbeats 1000000 in
theorem put_call {w : World} {A : Around} {E : Value → Shared → Prop} {s : Shared} {B : Heap} {l : Addr} {n : Nat} {ad : Nat → Addr} {mg mb : Str → Option Value} {ps : List WT} {x : List Nat} {tx : Tok} {Q : Value → Shared → Prop}
    (G : Gnd ad mg mb B) (hB : Grown B s.heap) (hBl : B.get? l = none) (R : Rm A 3) (hl : s.heap.get? l = some (listOf (ps.map sv).toArray n)) (hn : ps.length < 1000000)
    (hs : Srt (ps.map (·.1))) (hc : Cps ps) (hx : Cp x)
    (h : ∀ h' tk ps' n', Heap.ExtBut l s.heap h' → h'.get? l = some (listOf (List.map sv ps').toArray n') → ps'.map (·.1) = putL x (ps.map (·.1)) → (∀ p ∈ ps', p ∈ ps ∨ p = (x, tx)) → Q .none { s with heap := h', toks := tk }) :
    wpAny (model P0 w) A (call (.ref (ad 19)) [.ref l, .str (S x) tx] []) Q E s := by
  obtain ⟨_, hf⟩ := G.fnOf 19 "_law_put" (by decide)
  refine enter (binds := [("row", .ref l), ("word", .str (S x) tx)]) (hf.keeps hB) (G.nolimit.keeps hB) R.d (fun _ _ _ => BindsTo.of_eq rfl) fun h₁ cd hns hk => ?_
  replace R := R.deep (envOf "_law_put" (sco 19) s.heap.objs.size (ad 19) cd)
  obtain ⟨F, N, hB'⟩ := Loc.hide hB hBl hns hk hl
  replace G := G.keeps hB'
  obtain ⟨e3, _, _, hf3, _⟩ := G.bisOf 3 "bisect_left" (by decide)
  obtain ⟨gIr, _, _, hf1, _⟩ := G.bisOf 1 "insort_right" (by decide)
  have hsl : ∀ i j (_ : i < ps.length) (_ : j < ps.length), i ≤ j → ps[j].1 < x → ps[i].1 < x := fun i j hi hj q e => by
    rcases Nat.lt_or_ge i j with c | c
    · have := hs.at (i := i) (j := j) (by simpa using hj) c
      simp only [List.getElem_map] at this
      exact List.lt_trans this e
    · have : i = j := by omega
      subst this; exact e
  have hsr : ∀ i j (_ : i < ps.length) (_ : j < ps.length), i ≤ j → ¬ x < ps[j].1 → ¬ x < ps[i].1 := fun i j hi hj q e c => by
    rcases Nat.lt_or_ge i j with c' | c'
    · have := hs.at (i := i) (j := j) (by simpa using hj) c'
      simp only [List.getElem_map] at this
      exact e (List.lt_trans c this)
    · have : i = j := by omega
      subst this; exact e c
  refine wpAny_execs_cons (wpAny_Assign_Name (Call_Name rfl (ldg F G e3 (callFn hf3 ?_))))
  refine spliced_cons (ldv F rfl (spliced_cons (ldv F rfl (spliced_nil (wpAny_evalAll_nil ⟨F.keep, ?_⟩)))))
  refine bl_call (G.keeps F.keep) R.d ⟨_, N.get (.head _), rfl, _, rfl⟩ hn hsl fun h₂ tk₂ t₂ k hk₂ bb => ?_
  have F₂ := F.grow hk₂
  have N₂ := News.grow' N hk₂
  refine stv F₂ N₂ fun h₃ _ F₃ N₃ => wpAny_execs_cons (wpAny_If (wpAny_isTrue_Compare1 (sub_list ?_)))
  refine ldv F₃ (by walk_at "lk") (ldv F₃ (by walk_at "lk") (wpAny_BinOp (ldv F₃ (by walk_at "lk") (wpAny_Constant_int (wpAny_add_int ?_)))))
  refine ⟨l, ps.map sv, some (k : Int), some ((k : Int) + 1), rfl, ⟨_, N₃.get (.head _), rfl, _, rfl⟩, by simpa using hn, .int _ _, .int _ _, fun h₄ r₄ k₄ n₄ o₄ => ?_⟩
  have N₄ := News.join F₃ N₃ k₄ n₄ o₄
  have F₄ := F₃.grow k₄
  refine list_disp (spliced_cons (ldv F₄ (by walk_at "lk") (spliced_nil ⟨by simp, fun h₅ r₅ k₅ n₅ o₅ => ?_⟩)))
  have N₅ := News.join F₄ N₄ k₅ n₅ o₅
  have F₅ := F₄.grow k₅
  have e₄ : slicePick (ps.map sv).toArray (some (k : Int)) (some ((k : Int) + 1)) none = (((ps.drop k).take 1).map sv).toArray := by
    rw [slice_one, List.map_take, List.map_drop]
  rw [e₄] at N₅
  refine ne_strs (ps := (ps.drop k).take 1) (qs := [(x, tx)]) ⟨_, N₅.get (.tail _ (.head _)), rfl, _, rfl⟩ ⟨_, N₅.get (.head _), rfl, _, rfl⟩ (fun p hp => hc p (List.mem_of_mem_drop (List.mem_of_mem_take hp))) (fun p hp => by simp at hp; subst hp; exact hx) R.u (wpAny_truthy_bool ?_)
  by_cases hin : ∃ hk : k < ps.length, ps[k].1 = x
  · obtain ⟨hkl, hkx⟩ := hin
    have e1 : ((ps.drop k).take 1).map (·.1) = [x] := by
      rw [List.drop_eq_getElem_cons hkl, List.take_succ_cons, List.take_zero, List.map_cons, List.map_nil, hkx]
    rw [e1, if_neg (by simp)]
    refine wpAny_execs_nil (wpAny_execs_nil ?_)
    exact h h₅ _ ps n F₅.extBut (N₅.get (.tail _ (.tail _ (.head _)))) (putL_in hs (k := k) (by simpa using hkl) (by simpa using hkx)).symm fun p hp => .inl hp
  · have e1 : ((ps.drop k).take 1).map (·.1) ≠ [x] := by
      rcases Nat.lt_or_ge k ps.length with c | c
      · rw [List.drop_eq_getElem_cons c, List.take_succ_cons, List.take_zero, List.map_cons, List.map_nil]
        intro q
        exact hin ⟨c, (List.cons.inj q).1⟩
      · rw [List.drop_of_length_le c]; simp
    rw [if_pos (by simpa using e1)]
    have hnot : x ∉ ps.map (·.1) := fun q => by
      obtain ⟨i, hi, hix⟩ := List.getElem_of_mem q
      rw [List.length_map] at hi
      simp only [List.getElem_map] at hix
      rcases Nat.lt_trichotomy i k with c | c | c
      · obtain ⟨_, c'⟩ := bb.yes i (Nat.zero_le _) c
        rw [hix] at c'; exact List.lt_irrefl x c'
      · subst c; exact hin ⟨hi, hix⟩
      · have hk' : k < ps.length := by omega
        have := hs.at (i := k) (j := i) (by simpa using hi) c
        simp only [List.getElem_map] at this
        rw [hix] at this
        exact bb.no k (Nat.le_refl _) hk' ⟨hk', this⟩
    refine wpAny_execs_cons (wpAny_Expr_any (Call_Name rfl (ldg F₅ G gIr (callFn hf1 ?_))))
    refine spliced_cons (ldv F₅ (by walk_at "lk") (spliced_cons (ldv F₅ (by walk_at "lk") (spliced_nil (wpAny_evalAll_nil ⟨F₅.keep, ?_⟩)))))
    refine ir_call G F₅.keep (Heap.hide_self _ _) (by have := R.depth; omega) (N₅.get (.tail _ (.tail _ (.head _)))) hn hsr fun h₆ tk₆ k₆ n₆ x₆ hk₆ b₆ o₆ => wpAny_execs_nil (wpAny_execs_nil ?_)
    refine h h₆ tk₆ (ps.take k₆ ++ (x, tx) :: ps.drop k₆) n₆ (fun b o hb e => x₆ b o hb (F₅.extBut b o hb e)) o₆ ?_ ?_
    · rw [putL_out hnot (k := k₆) (fun i hi q => ?_) (fun i hi q => ?_)]
      · simp [List.map_take, List.map_drop]
      · obtain ⟨_, c⟩ := b₆.yes i (Nat.zero_le _) q
        simpa using c
      · have hi' : i < ps.length := by simpa using hi
        have := b₆.no i q hi'
        simp only [List.getElem_map]
        exact Classical.byContradiction fun c => this ⟨hi', c⟩
    · intro p hp
      rcases List.mem_append.mp hp with q | q
      · exact .inl (List.mem_of_mem_take q)
      · rcases List.mem_cons.mp q with q | q
        · exact .inr q
        · exact .inl (List.mem_of_mem_drop q)
end Mine

namespace Mine
local macro_rules | `(tactic| walk_at "lk") => `(tactic| first | with_reducible assumption | exact upd_self | (refine (upd_ne (by decide)).trans ?_; walk_at "lk") | exact rfl)

theorem text_from (x : List Nat) (k : Nat) (hk : k ≤ x.length) : StrLaws.sliceText (S x) (some (k : Int)) none = S (x.drop k) := by
  rw [StrLaws.sliceText_from ⟨Int.natCast_nonneg k, by simpa using hk⟩]
  simp
  rw [List.take_of_length_le (by simp)]
theorem text_to (x : List Nat) (k : Nat) (hk : k ≤ x.length) : StrLaws.sliceText (S x) none (some (k : Int)) = S (x.take k) := by
  rw [StrLaws.sliceText_to ⟨Int.natCast_nonneg k, by simpa using hk⟩]
  simp
theorem text_to' (x : List Nat) (k : Nat) : StrLaws.sliceText (S x) none (some (k : Int)) = S (x.take k) := by
  rcases Nat.le_total k x.length with h | h
  · exact text_to x k h
  · have e : StrLaws.sliceText (S x) none (some (k : Int)) = StrLaws.sliceText (S x) none (some (x.length : Int)) := by
      unfold StrLaws.sliceText
      have : Builtin.Str.strSliceIndices none (some (k : Int)) 1 (S x).length = Builtin.Str.strSliceIndices none (some (x.length : Int)) 1 (S x).length := by
        unfold Builtin.Str.strSliceIndices
        simp only [Str.length, List.size_toArray]
        congr 1
        simp
        omega
      rw [this]
    rw [e, text_to x x.length (Nat.le_refl _), List.take_of_length_le (Nat.le_refl _), List.take_of_length_le h]

theorem slen (x : List Nat) : (S x).length = x.length := by simp [Str.length]

section
variable {w : World} {A : Around} {E : Value → Shared → Prop} {s : Shared} {env : Env}
theorem sub_str {value : Expr} {lower upper : Option Expr} {p pos : Pos} {Q : Value → Shared → Prop}
    (h : wpAny (model P0 w) A (eval value env) (fun o s₁ => wpAny (model P0 w) A (evalPart lower env) (fun vl s₂ => wpAny (model P0 w) A (evalPart upper env) (fun vu s₃ =>
      ∃ x t l u, o = .str x t ∧ vl = partValue l ∧ vu = partValue u ∧
        (sliceMade x t l u none).post Q { s₃ with heap := s₃.heap.push { cls := .type "slice", data := .fields #[vl, vu, .none] } }) E s₂) E s₁) E s) :
    wpAny (model P0 w) A (eval (.Subscript value (.Slice lower upper none p) pos) env) Q E s := by
  refine sub_any (wpAny_mono h (fun o s₁ h₁ => wpAny_Slice (wpAny_mono h₁ (fun vl s₂ h₂ => wpAny_mono h₂ (fun vu s₃ h₃ => wpAny_pure ?_) fun _ _ e => e) fun _ _ e => e)) fun _ _ e => e)
  obtain ⟨x, t, l, u, rfl, rfl, rfl, hQ⟩ := h₃
  exact subscriptTail_ops (typeIs_str _ x t) F.slot_str_getitem.lookup (wpAny_getItem_str_slice (l := l) (u := u) (st := none) ⟨_, Heap.get?_push_size _ rfl, rfl, rfl⟩ rfl hQ) rfl (fun _ => rfl)
theorem sub_from {value lower : Expr} {p pos : Pos} {Q : Value → Shared → Prop}
    (h : wpAny (model P0 w) A (eval value env) (fun o s₁ => wpAny (model P0 w) A (eval lower env) (fun vl s₂ => ∃ x t k u, o = .str (S x) t ∧ vl = .int ((k : Nat) : Int) u ∧ k ≤ x.length ∧ x.length < 1000000 ∧
      ∀ h' t' tk, Grown s₂.heap h' → Q (.str (S (x.drop k)) t') { s₂ with heap := h', toks := tk }) E s₁) E s) :
    wpAny (model P0 w) A (eval (.Subscript value (.Slice (some lower) none none p) pos) env) Q E s := by
  refine sub_str (wpAny_mono h (fun o s₁ h₁ => wpAny_mono h₁ (fun vl s₂ h₂ => ?_) fun _ _ e => e) fun _ _ e => e)
  obtain ⟨x, t, k, u, rfl, rfl, hk, hz, hq⟩ := h₂
  refine wpAny_pure ⟨S x, t, some (k, u), none, rfl, rfl, rfl, ?_⟩
  refine post_val_or_str (c := _) ⟨?_, fun t' tk => ?_⟩
  · show (StrLaws.sliceText (S x) (some (k : Int)) none).length ≤ sizeLine
    rw [text_from x k hk, slen]
    exact line_ok (by rw [List.length_drop]; omega)
  · have e := text_from x k hk
    unfold StrLaws.sliceText at e
    have := hq (s₂.heap.push { cls := .type "slice", data := .fields #[.int (k : Int) u, .none, .none] }) t' tk (Grown.push _ _)
    rw [← e] at this
    exact this
theorem sub_to {value upper : Expr} {p pos : Pos} {Q : Value → Shared → Prop}
    (h : wpAny (model P0 w) A (eval value env) (fun o s₁ => wpAny (model P0 w) A (eval upper env) (fun vu s₂ => ∃ x t k u, o = .str (S x) t ∧ vu = .int ((k : Nat) : Int) u ∧ x.length < 1000000 ∧
      ∀ h' t' tk, Grown s₂.heap h' → Q (.str (S (x.take k)) t') { s₂ with heap := h', toks := tk }) E s₁) E s) :
    wpAny (model P0 w) A (eval (.Subscript value (.Slice none (some upper) none p) pos) env) Q E s := by
  refine sub_str (wpAny_mono h (fun o s₁ h₁ => wpAny_pure (wpAny_mono h₁ (fun vu s₂ h₂ => ?_) fun _ _ e => e)) fun _ _ e => e)
  obtain ⟨x, t, k, u, rfl, rfl, hz, hq⟩ := h₂
  refine ⟨S x, t, none, some (k, u), rfl, rfl, rfl, ?_⟩
  refine post_val_or_str (c := _) ⟨?_, fun t' tk => ?_⟩
  · show (StrLaws.sliceText (S x) none (some (k : Int))).length ≤ sizeLine
    rw [text_to' x k, slen]
    exact line_ok (by rw [List.length_take]; omega)
  · have e := text_to' x k
    unfold StrLaws.sliceText at e
    have := hq (s₂.heap.push { cls := .type "slice", data := .fields #[.none, .int (k : Int) u, .none] }) t' tk (Grown.push _ _)
    rw [← e] at this
    exact this
end

theorem starts_eq (x y : List Nat) : Txt.startswith (S x) (S y) = y.isPrefixOf x := by
  unfold Txt.startswith
  rw [StrLaws.subAt_eq, slen, slen, Bool.eq_iff_iff]
  simp only [Nat.zero_add, Bool.and_eq_true, decide_eq_true_eq, List.drop_zero, beq_iff_eq]
  rw [List.isPrefixOf_iff_prefix, List.prefix_iff_eq_take]
  constructor
  · rintro ⟨a, b⟩; exact b.symm
  · intro h
    refine ⟨?_, h.symm⟩
    have := congrArg List.length h
    rw [List.length_take] at this
    omega

noncomputable def madeOf (ws : List (List Nat)) : Nat → List Nat → Bool
  | 0, _ => true
  | n + 1, x =>
    if x = [] then true else
    let k := ws.countP (fun y => !decide (x < y))
    match k with
    | 0 => false
    | k + 1 => match ws[k]? with
      | some y => if y.isPrefixOf x then madeOf ws n (x.drop y.length) else false
      | none => false

theorem madeOf_fuel (ws : List (List Nat)) (hz : ∀ z ∈ ws, z ≠ []) : ∀ (n m : Nat) (x : List Nat), x.length ≤ n → x.length ≤ m → madeOf ws n x = madeOf ws m x := by
  intro n
  induction n with
  | zero =>
    intro m x hx _
    have : x = [] := List.length_eq_zero_iff.mp (by omega)
    subst this
    cases m <;> rfl
  | succ n ih =>
    intro m x hx hm
    cases m with
    | zero =>
      have : x = [] := List.length_eq_zero_iff.mp (by omega)
      subst this; rfl
    | succ m =>
      unfold madeOf
      by_cases hx0 : x = []
      · rw [if_pos hx0, if_pos hx0]
      · rw [if_neg hx0, if_neg hx0]
        simp only
        split
        · rfl
        · rename_i k _
          split
          · rename_i y hy
            have hpos : 0 < y.length := List.length_pos_iff.mpr (hz y (List.mem_of_getElem? hy))
            rw [ih m (x.drop y.length) (by rw [List.length_drop]; omega) (by rw [List.length_drop]; omega)]
          · rfl

theorem madeOf_zero (ws : List (List Nat)) (n : Nat) (x : List Nat) (hx : x ≠ []) (hk : ws.countP (fun y => !decide (x < y)) = 0) : madeOf ws (n + 1) x = false := by
  unfold madeOf
  rw [if_neg hx]
  simp only [hk]
theorem madeOf_succ (ws : List (List Nat)) (n : Nat) (x z : List Nat) (hx : x ≠ []) (k : Nat) (hk : ws.countP (fun y => !decide (x < y)) = k + 1) (hz : ws[k]? = some z) :
    madeOf ws (n + 1) x = if z.isPrefixOf x then madeOf ws n (x.drop z.length) else false := by
  conv => lhs; unfold madeOf
  rw [if_neg hx]
  simp only [hk, hz]

theorem bis_count {ps : List WT} {x : List Nat} {k : Nat} (bb : Bis (fun i => ∃ h : i < ps.length, ¬ x < ps[i].1) 0 ps.length k k) : (ps.map (·.1)).countP (fun y => !decide (x < y)) = k :=
  countP_cut _ _ _ (by simpa using bb.h) (fun i h q => by
      obtain ⟨_, c⟩ := bb.yes i (Nat.zero_le _) q
      simpa using c) (fun i h q => by
      have h' : i < ps.length := by simpa using h
      have := bb.no i q h'
      simp only [List.getElem_map, Bool.not_eq_false', decide_eq_true_eq]
      exact Classical.byContradiction fun c => this ⟨h', c⟩)

theorem Srt.mono {ps : List WT} (hs : Srt (ps.map (·.1))) (x : List Nat) : ∀ i j (_ : i < ps.length) (_ : j < ps.length), i ≤ j → ¬ x < ps[j].1 → ¬ x < ps[i].1 := fun i j hi hj q e c => by
  rcases Nat.lt_or_ge i j with c' | c'
  · have := hs.at (i := i) (j := j) (by simpa using hj) c'
    simp only [List.getElem_map] at this
    exact e (List.lt_trans c this)
  · have : i = j := by omega
    subst this; exact e c
theorem Srt.monoL {ps : List WT} (hs : Srt (ps.map (·.1))) (x : List Nat) : ∀ i j (_ : i < ps.length) (_ : j < ps.length), i ≤ j → ps[j].1 < x → ps[i].1 < x := fun i j hi hj q e => by
  rcases Nat.lt_or_ge i j with c | c
  · have := hs.at (i := i) (j := j) (by simpa using hj) c
    simp only [List.getElem_map] at this
    exact List.lt_trans this e
  · have : i = j := by omega
    subst this; exact e

section
variable {w : World} {A : Around} {E : Value → Shared → Prop} {s : Shared} {env : Env}
theorem isTrue_or2 {a b : Expr} {p : Pos} {wh : Sem Value} {Q : Bool → Shared → Prop}
    (h : wpAny (model P0 w) A (isTrue a env (eval a env)) (fun b1 s₁ => if b1 = true then Q true s₁ else wpAny (model P0 w) A (isTrue b env (eval b env)) (fun b2 s₂ => Q b2 s₂) E s₁) E s) :
    wpAny (model P0 w) A (isTrue (.BoolOp .Or [a, b] p) env wh) Q E s := by
  show wpAny (model P0 w) A (isTrue a env (eval a env) >>= _) Q E s
  refine wpAny_bind (wpAny_mono h (fun b1 s₁ h₁ => ?_) fun _ _ e => e)
  cases b1 with
  | true => exact wpAny_pure h₁
  | false =>
    show wpAny (model P0 w) A (isTrue b env (eval b env) >>= _) Q E s₁
    refine wpAny_bind (wpAny_mono h₁ (fun b2 s₂ h₂ => ?_) fun _ _ e => e)
    cases b2 <;> exact wpAny_pure h₂
theorem isTrue_not' {a : Expr} {p : Pos} {wh : Sem Value} {Q : Bool → Shared → Prop} (h : wpAny (model P0 w) A (isTrue a env (eval a env)) (fun b s₁ => Q (!b) s₁) E s) :
    wpAny (model P0 w) A (isTrue (.UnaryOp .Not a p) env wh) Q E s := by
  show wpAny (model P0 w) A (isTrue a env (eval a env) >>= _) Q E s
  exact wpAny_bind (wpAny_mono h (fun b s₁ h₁ => wpAny_pure h₁) fun _ _ e => e)
theorem isTrue_val {e : Expr} {Q : Bool → Shared → Prop} (h : wpAny (model P0 w) A (eval e env) (fun v s₁ => wpAny (model P0 w) A (truthy v) Q E s₁) E s)
    (he : isTrue e env (eval e env) = (do let v ← eval e env; standAt e.pos; holding [v] (truthy v))) : wpAny (model P0 w) A (isTrue e env (eval e env)) Q E s := by
  rw [he]
  exact wpAny_bind (wpAny_mono h (fun v s₁ h₁ => wpAny_bind (wpAny_standAt (wpAny_holding h₁))) fun _ _ x => x)
end

theorem eq_nil_ne (x : List Nat) : ((S x).cps.toList != (Str.ofString "").cps.toList) = !decide (x = []) := by
  have : (Str.ofString "").cps.toList = [] := by decide +kernel
  rw [this]
  cases x <;> simp

inductive MadeW (s : Shared) (l : Addr) (ps : List WT) (x : List Nat) (n : Nat) (s' : Shared) : Prop
  | mk : ∀ h' tk m' y t, s' = { s with heap := h', toks := tk } → Loc s.heap s.heap.objs.size h' m' → m' "parts" = some (.ref l) → m' "word" = some (.str (S y) t) → n = y.length → y.length ≤ x.length →
      madeOf (ps.map (·.1)) x.length x = madeOf (ps.map (·.1)) y.length y → MadeW s l ps x n s'

set_option maxHeartbeats 1000000 in
theorem made_call {w : World} {A : Around} {E : Value → Shared → Prop} {s : Shared} {l : Addr} {ad : Nat → Addr} {mg mb : Str → Option Value} {ps : List WT} {x : List Nat} {tx : Tok} {Q : Value → Shared → Prop}
    (G : Gnd ad mg mb s.heap) (R : Rm A 3) (hl : s.heap.IsList l (ps.map sv).toArray) (hn : ps.length < 1000000)
    (hs : Srt (ps.map (·.1))) (hne : ∀ p ∈ ps, p.1 ≠ []) (hx : x.length < 1000000)
    (h : ∀ h' tk, Grown s.heap h' → Q (.bool (madeOf (ps.map (·.1)) x.length x)) { s with heap := h', toks := tk }) :
    wpAny (model P0 w) A (call (.ref (ad 26)) [.ref l, .str (S x) tx] []) Q E s := by
  obtain ⟨_, hf⟩ := G.fnOf 26 "_law_made_of" (by decide)
  refine enter (binds := [("parts", .ref l), ("word", .str (S x) tx)]) hf G.nolimit R.d (fun _ _ _ => BindsTo.of_eq rfl) fun h₁ cd hns hk => ?_
  replace R := R.deep (envOf "_law_made_of" (sco 26) s.heap.objs.size (ad 26) cd)
  have F := Loc.start hns hk
  obtain ⟨e2, _, _, hf2, _⟩ := G.bisOf 2 "bisect_right" (by decide)
  have hQ : ∀ b h' tk, madeOf (ps.map (·.1)) x.length x = b → Grown s.heap h' → Q (.bool b) { s with heap := h', toks := tk } := fun b h' tk e k => e ▸ h h' tk k
  refine wpAny_execs_cons ?_
  refine while_gen (fun n s' => MadeW s l ps x n s')
    (n := x.length) ⟨_, _, _, x, tx, rfl, F, rfl, rfl, rfl, Nat.le_refl _, rfl⟩ ?_
  rintro n s' ⟨h', tk, m', y, t, rfl, F', mp, mw, rfl, hle, hmade⟩
  refine wpAny_isTrue_Compare1 (ldv F' mw (wpAny_Constant_str (P.ne_str (wpAny_truthy_bool ?_))))
  rw [eq_nil_ne]
  by_cases hy : y = []
  · subst hy
    rw [if_neg (by simp)]
    refine wpAny_execs_cons (wpAny_Return_some (wpAny_Constant_bool ?_))
    exact hQ _ _ _ hmade F'.keep
  · rw [if_pos (by simpa using hy)]
    refine wpAny_execs_cons (wpAny_Assign_Name (Call_Name rfl (ldg F' G e2 (callFn hf2 ?_))))
    refine spliced_cons (ldv F' mp (spliced_cons (ldv F' mw (spliced_nil (wpAny_evalAll_nil ⟨F'.keep, ?_⟩)))))
    refine br_call2 (G.keeps F'.keep) R.d (F'.lst hl) hn (hs.mono y) fun h₂ tk₂ t₂ k hk₂ bb => ?_
    have F₂ := F'.grow hk₂
    refine stv F₂ News.nil fun h₃ tk₃ F₃ _ => ?_
    dsimp only at F₃ ⊢
    have hcnt := bis_count bb
    refine wpAny_execs_cons (wpAny_If (isTrue_or2 (wpAny_isTrue_Compare1 (ldv F₃ (by walk_at "lk") (wpAny_Constant_int (PyProof.Rows.eq_int (wpAny_truthy_bool ?_)))))))
    have hlen : ∃ n, y.length = n + 1 := by cases y with | nil => exact absurd rfl hy | cons a r => exact ⟨r.length, rfl⟩
    obtain ⟨n, hyn⟩ := hlen
    cases k with
    | zero =>
      have hstep := madeOf_zero (ps.map (·.1)) n y hy hcnt
      rw [← hyn] at hstep
      rw [if_pos (by rfl)]
      rw [if_pos rfl]
      refine wpAny_execs_cons (wpAny_Return_some (wpAny_Constant_bool ?_))
      exact hQ _ _ _ (hmade.trans hstep) F₃.keep
    | succ k =>
      rw [if_neg (by simp; omega)]
      have hkl : k < ps.length := bb.h
      have hz : (ps.map (·.1))[k]? = some ps[k].1 := by simp [hkl]
      have hstep := madeOf_succ (ps.map (·.1)) n y _ hy k hcnt hz
      rw [← hyn] at hstep
      have hix : ((k + 1 : Nat) : Int) - 1 = (k : Int) := by omega
      refine isTrue_not' (isTrue_val (Call_method1 rfl rfl rfl (ldv F₃ (by walk_at "lk") (SB.startswith (Subscript_ (ldv F₃ (by walk_at "lk") (wpAny_BinOp (ldv F₃ (by walk_at "lk") (wpAny_Constant_int (PyProof.Rows.sub_int ?_))))))))) rfl)
      rw [hix]
      refine item_list (x := sv ps[k]) (F₃.lst hl) (by omega) (by omega) (by rw [Int.toNat_natCast]; simp [hkl]) ⟨_, _, rfl, wpAny_truthy_bool ?_⟩
      rw [starts_eq]
      have hne' := hne ps[k] (List.getElem_mem hkl)
      by_cases hp : ps[k].1.isPrefixOf y = true
      · rw [hp, if_neg (by simp)]
        rw [if_pos hp] at hstep
        refine wpAny_execs_nil (wpAny_execs_cons (wpAny_Assign_Name (sub_from (ldv F₃ (by walk_at "lk") (Call_Name1 (ldb F₃ G boot_len ?_))))))
        refine callWith_builtin1 (Subscript_ (ldv F₃ (by walk_at "lk") (wpAny_BinOp (ldv F₃ (by walk_at "lk") (wpAny_Constant_int (PyProof.Rows.sub_int ?_))))))
        rw [hix]
        refine item_list (x := sv ps[k]) (F₃.lst hl) (by omega) (by omega) (by rw [Int.toNat_natCast]; simp [hkl]) ?_
        have hpl : ps[k].1.length ≤ y.length := (List.isPrefixOf_iff_prefix.mp hp).length_le
        have hpos : 0 < ps[k].1.length := List.length_pos_iff.mpr hne'
        refine SBL.len (by rw [slen]; omega) ?_
        refine ⟨y, t, ps[k].1.length, _, rfl, by rw [slen], hpl, by omega, fun h₄ t₄ tk₄ k₄ => ?_⟩
        have F₄ := F₃.grow k₄
        refine stv F₄ News.nil fun h₅ tk₅ F₅ _ => wpAny_execs_nil ?_
        dsimp only at F₅ ⊢
        refine ⟨(y.drop ps[k].1.length).length, by rw [List.length_drop]; omega, h₅, tk₅, _, y.drop ps[k].1.length, t₄, rfl, F₅, by walk_at "lk", by walk_at "lk", rfl, by rw [List.length_drop]; omega, ?_⟩
        rw [hmade, hstep]
        exact madeOf_fuel _ (fun z hz' => by
          obtain ⟨q, hq, rfl⟩ := List.mem_map.mp hz'
          exact hne q hq) _ _ _ (by rw [List.length_drop]; omega) (Nat.le_refl _)
      · rw [Bool.eq_false_iff.mpr hp, if_pos (by rfl)]
        rw [if_neg hp] at hstep
        refine wpAny_execs_cons (wpAny_Return_some (wpAny_Constant_bool ?_))
        exact hQ _ _ _ (hmade.trans hstep) F₃.keep
end Mine

namespace Mine
local macro_rules | `(tactic| walk_at "lk") => `(tactic| first | with_reducible assumption | exact upd_self | (refine (upd_ne (by decide)).trans ?_; walk_at "lk") | exact rfl)

theorem grown_ext {h h' : Heap} (e : Heap.ExtBut h.objs.size h h') : Grown h h' := fun b o q => e b o (Nat.ne_of_lt (Heap.lt_size q)) q

section
variable {w : World} {A : Around} {E : Value → Shared → Prop} {s : Shared} {env : Env}

theorem spl1 {pos : Pos} {e1 : Expr} {Q : List Value → Shared → Prop} (h : wpAny (model P0 w) A (eval e1 env) (fun v1 s₁ => Q [v1] s₁) E s)
    (hs : backTo pos (starEach [e1] env) = [(false, eval e1 env)] := by rfl) : wpAny (model P0 w) A (spliced (backTo pos (starEach [e1] env))) Q E s := by
  rw [hs]
  exact spliced_cons (wpAny_mono h (fun _ _ q => spliced_nil q) fun _ _ e => e)
theorem spl2 {pos : Pos} {e1 e2 : Expr} {Q : List Value → Shared → Prop} (h : wpAny (model P0 w) A (eval e1 env) (fun v1 s₁ => wpAny (model P0 w) A (eval e2 env) (fun v2 s₂ => Q [v1, v2] s₂) E s₁) E s)
    (hs : backTo pos (starEach [e1, e2] env) = [(false, eval e1 env), (false, eval e2 env)] := by rfl) : wpAny (model P0 w) A (spliced (backTo pos (starEach [e1, e2] env))) Q E s := by
  rw [hs]
  exact spliced_cons (wpAny_mono h (fun _ _ q => spliced_cons (wpAny_mono q (fun _ _ q => spliced_nil q) fun _ _ e => e)) fun _ _ e => e)
theorem spl3 {pos : Pos} {e1 e2 e3 : Expr} {Q : List Value → Shared → Prop} (h : wpAny (model P0 w) A (eval e1 env) (fun v1 s₁ => wpAny (model P0 w) A (eval e2 env) (fun v2 s₂ => wpAny (model P0 w) A (eval e3 env) (fun v3 s₃ => Q [v1, v2, v3] s₃) E s₂) E s₁) E s)
    (hs : backTo pos (starEach [e1, e2, e3] env) = [(false, eval e1 env), (false, eval e2 env), (false, eval e3 env)] := by rfl) : wpAny (model P0 w) A (spliced (backTo pos (starEach [e1, e2, e3] env))) Q E s := by
  rw [hs]
  exact spliced_cons (wpAny_mono h (fun _ _ q => spliced_cons (wpAny_mono q (fun _ _ q => spliced_cons (wpAny_mono q (fun _ _ q => spliced_nil q) fun _ _ e => e)) fun _ _ e => e)) fun _ _ e => e)
theorem spl4 {pos : Pos} {e1 e2 e3 e4 : Expr} {Q : List Value → Shared → Prop} (h : wpAny (model P0 w) A (eval e1 env) (fun v1 s₁ => wpAny (model P0 w) A (eval e2 env) (fun v2 s₂ => wpAny (model P0 w) A (eval e3 env) (fun v3 s₃ => wpAny (model P0 w) A (eval e4 env) (fun v4 s₄ => Q [v1, v2, v3, v4] s₄) E s₃) E s₂) E s₁) E s)
    (hs : backTo pos (starEach [e1, e2, e3, e4] env) = [(false, eval e1 env), (false, eval e2 env), (false, eval e3 env), (false, eval e4 env)] := by rfl) : wpAny (model P0 w) A (spliced (backTo pos (starEach [e1, e2, e3, e4] env))) Q E s := by
  rw [hs]
  exact spliced_cons (wpAny_mono h (fun _ _ q => spliced_cons (wpAny_mono q (fun _ _ q => spliced_cons (wpAny_mono q (fun _ _ q => spliced_cons (wpAny_mono q (fun _ _ q => spliced_nil q) fun _ _ e => e)) fun _ _ e => e)) fun _ _ e => e)) fun _ _ e => e)

theorem asg2 {x y : Str} {px py tp vp pos : Pos} {k k' : Nat} {e1 e2 : Expr} {Q : Flow → Shared → Prop} (hh : A.handled = none)
    (h : wpAny (model P0 w) A (spliced (backTo vp (starEach [e1, e2] env))) (fun vs s₂ => ∃ v1 v2, vs = [v1, v2] ∧ ∀ h', Grown s₂.heap h' →
      wpAny (model P0 w) A (storeName env y v2) (fun _ s₃ => wpAny (model P0 w) A (storeName env x v1) (fun _ => Q .next) E s₃) E { s₂ with heap := h' }) E s)
    (hs : swapsWithSole [.Tuple [.Name x px, .Name y py] k tp] (.Tuple [e1, e2] k' vp) pos.line env = pure false := by rfl)
    (hw : swappedStores [.Tuple [.Name x px, .Name y py] k tp] (.Tuple [e1, e2] k' vp) env = pure (some [x, y]) := by rfl) :
    wpAny (model P0 w) A (exec (.Assign [.Tuple [.Name x px, .Name y py] k tp] (.Tuple [e1, e2] k' vp) pos) env) Q E s := by
  refine Assign_Tuple_swapped (tup_disp (wpAny_mono h (fun vs s₂ h₂ => ?_) fun _ _ e => e)) hs hw
  obtain ⟨v1, v2, rfl, h₂⟩ := h₂
  refine ⟨by simp, fun h' r k₁ n₁ o₁ => ?_⟩
  refine unpackItems_tuple (items := #[v1, v2]) hh ⟨_, o₁, rfl, _, rfl⟩ fun h'' e'' => ?_
  exact assignInOrder_cons (bindName_ (wpAny_mono (h₂ h'' (k₁.trans (grown_ext e''))) (fun _ s₃ h₃ => assignInOrder_cons (bindName_ (wpAny_mono h₃ (fun _ _ q => assignInOrder_nil q) fun _ _ e => e))) fun _ _ e => e))

theorem call_list {Q : Value → Shared → Prop} {l : Addr} {li : List Value} (hl : s.heap.IsList l li.toArray) (hz : li.length < 1000000)
    (hQ : ∀ h' r n, Grown s.heap h' → s.heap.get? r = none → h'.get? r = some (listOf li.toArray n) → Q (.ref r) { s with heap := h' }) :
    wpAny (model P0 w) A (call (.type "list") [.ref l]) Q E s := by
  obtain ⟨o, ho, hc, n, hd⟩ := hl
  exact call_list_seq (hsz := by rw [List.size_toArray]; exact line_ok hz) l (.inl rfl) ho hc hd fun h' c' hk hD => hQ h' _ _ hk (get_size _) hD
end

theorem ct1 {w : World} {A : Around} {E : Value → Shared → Prop} {s : Shared} {pos : Pos} {T : String} {t : Sem Value} {Q : Value → Shared → Prop} (h : wpAny (model P0 w) A t (fun v s₁ => wpAny (model P0 w) A (call (.type T) [v]) Q E s₁) E s) :
    wpAny (model P0 w) A (callWith pos (.type T) [] [(false, t)] []) Q E s :=
  PyProof.Rows.callWith_type rfl (Calls.evalArgs_plain (Calls.spliced_cons (wpAny_mono h (fun _ _ h₁ => Calls.spliced_nil h₁) fun _ _ e => e)))

theorem boot_list : bootBuiltins "list" = some (.type "list") := by decide +kernel

noncomputable def partsL : Nat → List (List Nat) → Nat → Option (List (List Nat))
  | 0, _, _ => none
  | n + 1, ws, k =>
    match ws[k]?, ws[k + 1]? with
    | some a, some b => if a.isPrefixOf b then partsL n (putL (b.drop a.length) (ws.eraseIdx (k + 1))) 0 else partsL n ws (k + 1)
    | _, _ => some ws

theorem Srt.erase {ws : List (List Nat)} (h : Srt ws) (k : Nat) : Srt (ws.eraseIdx k) := List.Pairwise.sublist (List.eraseIdx_sublist ws k) h

theorem split_at {α : Type} (l : List α) (k : Nat) (h : k < l.length) : l = l.take k ++ l[k] :: l.drop (k + 1) := by
  rw [← List.drop_eq_getElem_cons h, List.take_append_drop]

theorem erase_map {α β : Type} (f : α → β) (l : List α) (k : Nat) : (l.eraseIdx k).map f = (l.map f).eraseIdx k := by
  rw [List.eraseIdx_eq_take_drop_succ, List.eraseIdx_eq_take_drop_succ, List.map_append, List.map_take, List.map_drop]

theorem mem_sv {ps : List WT} {ws : List (List Nat)} (e : ps.map (·.1) = ws) (h : ∀ x ∈ ws, Cp x) : Cps ps := fun p hp => h p.1 (e ▸ List.mem_map_of_mem hp)

theorem Cp.drop {x : List Nat} (h : Cp x) (k : Nat) : Cp (x.drop k) := fun c hc => h c (List.mem_of_mem_drop hc)

inductive PartsW (s : Shared) (r : Addr) (ps : List WT) (res : List (List Nat)) (f : Nat) (s' : Shared) : Prop
  | mk : ∀ h' tk m' k t qs n, s' = { s with heap := h', toks := tk } → Loc s.heap s.heap.objs.size h' m' → News s.heap s.heap.objs.size h' [(r, listOf (List.map sv qs).toArray n)] →
      m' "parts" = some (.ref r) → m' "k" = some (.int ((k : Nat) : Int) t) → qs.length ≤ ps.length → Srt (qs.map (·.1)) → Cps qs → (∀ p ∈ qs, p.1.length < 1000) → partsL f (qs.map (·.1)) k = some res → PartsW s r ps res f s'

set_option maxHeartbeats 1000000 in
theorem parts_call {w : World} {A : Around} {E : Value → Shared → Prop} {s : Shared} {l : Addr} {ad : Nat → Addr} {mg mb : Str → Option Value} {ps : List WT} {fuel : Nat} {res : List (List Nat)} {Q : Value → Shared → Prop}
    (G : Gnd ad mg mb s.heap) (R : Rm A 4) (hl : s.heap.IsList l (ps.map sv).toArray) (hn : ps.length < 1000)
    (hs : Srt (ps.map (·.1))) (hc : Cps ps) (hlen : ∀ p ∈ ps, p.1.length < 1000) (hres : partsL fuel (ps.map (·.1)) 0 = some res)
    (h : ∀ h' tk r ps' n, Grown s.heap h' → s.heap.get? r = none → h'.get? r = some (listOf (List.map sv ps').toArray n) → ps'.map (·.1) = res → Q (.ref r) { s with heap := h', toks := tk }) :
    wpAny (model P0 w) A (call (.ref (ad 25)) [.ref l] []) Q E s := by
  obtain ⟨_, hf⟩ := G.fnOf 25 "_law_parts" (by decide)
  refine enter (binds := [("code", .ref l)]) hf G.nolimit R.d (fun _ _ _ => BindsTo.of_eq rfl) fun h₁ cd hns hk => ?_
  replace R := R.deep (envOf "_law_parts" (sco 25) s.heap.objs.size (ad 25) cd)
  have F := Loc.start hns hk
  obtain ⟨eP, hfP⟩ := G.fnOf 19 "_law_put" (by decide)
  refine wpAny_execs_cons (asg2 R.handled ?_)
  refine spl2 (Call_Name1 (ldb F G boot_list (ct1 (ldv F rfl (call_list (F.lst hl) (by simp; omega) fun h₂ r n₂ k₂ n₂' o₂ => ?_)))))
  have N₂ := News.join F (News.nil (L := s.heap.objs.size)) k₂ n₂' o₂
  have F₂ := F.grow k₂
  refine wpAny_Constant_int ⟨_, _, rfl, fun h₃ k₃ => ?_⟩
  have F₃ := F₂.grow k₃
  have N₃ := News.grow' N₂ k₃
  refine stv F₃ N₃ fun h₄ _ F₄ N₄ => stv F₄ N₄ fun h₅ tk₅ F₅ N₅ => wpAny_execs_cons ?_
  dsimp only at F₅ N₅ ⊢
  have hr0 : s.heap.get? r = none := (N₅ _ (.head _)).2.2
  refine while_gen (fun f s' => PartsW s r ps res f s')
    (n := fuel) ⟨_, _, _, 0, _, ps, _, rfl, F₅, N₅, by walk_at "lk", by walk_at "lk", Nat.le_refl _, hs, hc, hlen, hres⟩ ?_
  rintro f s' ⟨h', tk, m', k, t, qs, n, rfl, F', N', mp, mk, hql, hqs, hqc, hqlen, hqres⟩
  have hL : ∀ {h : Heap}, News s.heap s.heap.objs.size h [(r, listOf (List.map sv qs).toArray n)] → h.IsList r (List.map sv qs).toArray := fun N => ⟨_, N.get (.head _), rfl, _, rfl⟩
  refine wpAny_isTrue_Compare1 (wpAny_BinOp (ldv F' mk (wpAny_Constant_int (wpAny_add_int (Call_Name1 (ldb F' G boot_len (callWith_builtin1 (ldv F' mp (len_list (hL N') (by simp; omega) (wpAny_lt_int (wpAny_truthy_bool ?_)))))))))))
  cases f with
  | zero => cases hqres
  | succ f =>
  by_cases hlt : k + 1 < qs.length
  · rw [if_pos (by simp; omega)]
    have ha : (qs.map (·.1))[k]? = some qs[k].1 := by simp [show k < qs.length by omega]
    have hb : (qs.map (·.1))[k + 1]? = some qs[k + 1].1 := by simp [hlt]
    unfold partsL at hqres
    rw [ha, hb] at hqres
    simp only at hqres
    have hk1 : (k : Int) + 1 = ((k + 1 : Nat) : Int) := rfl
    refine wpAny_execs_cons (wpAny_If (isTrue_plain (Call_method1 rfl rfl rfl (Subscript_ (ldv F' mp (wpAny_BinOp (ldv F' mk (wpAny_Constant_int (wpAny_add_int ?_)))))))))
    rw [hk1]
    refine item_list (x := sv qs[k + 1]) (hL N') (by omega) (by omega) (by rw [Int.toNat_natCast]; simp [hlt]) ?_
    refine SB.startswith (Subscript_ (ldv F' mp (ldv F' mk (item_list (x := sv qs[k]) (hL N') (by omega) (by omega) (by rw [Int.toNat_natCast]; simp [show k < qs.length by omega]) ⟨_, _, rfl, wpAny_truthy_bool ?_⟩))))
    rw [starts_eq]
    by_cases hp : qs[k].1.isPrefixOf qs[k + 1].1 = true
    · rw [if_pos hp] at hqres ⊢
      refine wpAny_execs_cons (wpAny_Assign_Name (MethodCall_ (ldv F' mp (lmeth (N'.get (.head _)) PySem.F.slot_list_pop PySem.F.type_list_pop ?_))))
      refine Calls.callWith_builtin rfl (Calls.evalArgs_plain (spliced_cons (wpAny_BinOp (ldv F' mk (wpAny_Constant_int (wpAny_add_int (spliced_nil ?_)))))))
      have eSplit : (qs.map sv).toArray = (((qs.take (k + 1)).map sv) ++ sv qs[k + 1] :: ((qs.drop (k + 2)).map sv)).toArray := by
        exact congrArg List.toArray ((congrArg (List.map sv) (split_at qs (k + 1) hlt)).trans (by rw [List.map_append, List.map_cons]))
      have oD := N'.get (.head _)
      rw [eSplit] at oD
      refine popAt_of oD (by simp; omega) (by simp; omega) fun h₆ s₆ o₆ => ?_
      have F₆ := F'.change s₆ (N' _ (.head _)).2.1 (N' _ (.head _)).2.2
      have N₆ : News s.heap s.heap.objs.size h₆ [(r, listOf (List.map sv (qs.eraseIdx (k + 1))).toArray (n + 1))] := by
        intro p hp'
        simp at hp'; subst hp'
        refine ⟨?_, (N' _ (.head _)).2⟩
        rw [o₆, List.eraseIdx_eq_take_drop_succ]
        simp
      refine stv F₆ N₆ fun h₇ tk₇ F₇ N₇ => ?_
      dsimp only at F₇ N₇ ⊢
      have hek : k < (qs.eraseIdx (k + 1)).length := by rw [List.length_eraseIdx]; split <;> omega
      have hge : (qs.eraseIdx (k + 1))[k] = qs[k] := by rw [List.getElem_eraseIdx_of_lt]; omega
      have hL₇ : h₇.IsList r (List.map sv (qs.eraseIdx (k + 1))).toArray := ⟨_, N₇.get (.head _), rfl, _, rfl⟩
      refine wpAny_execs_cons (wpAny_Expr_any (Call_Name rfl (ldg F₇ G eP (callFn hfP (spliced_cons (ldv F₇ (by walk_at "lk") (spliced_cons (sub_from (ldv F₇ (by walk_at "lk") (Call_Name1 (ldb F₇ G boot_len ?_)))))))))))
      refine callWith_builtin1 (Subscript_ (ldv F₇ (by walk_at "lk") (ldv F₇ (by walk_at "lk") (item_list (x := sv qs[k]) hL₇ (by omega) (by omega) (by rw [Int.toNat_natCast]; simp [hek, hge]) ?_))))
      have hpl : qs[k].1.length ≤ qs[k + 1].1.length := (List.isPrefixOf_iff_prefix.mp hp).length_le
      have hl1 := hqlen qs[k + 1] (List.getElem_mem hlt)
      refine SBL.len (by rw [slen]; omega) ⟨qs[k + 1].1, qs[k + 1].2, qs[k].1.length, _, rfl, by rw [slen], hpl, by omega, fun h₈ t₈ tk₈ k₈ => ?_⟩
      have F₈ := F₇.grow k₈
      have N₈ := News.grow' N₇ k₈
      refine spliced_nil (wpAny_evalAll_nil ⟨F₈.keep, ?_⟩)
      have hce : Cps (qs.eraseIdx (k + 1)) := fun p hp' => hqc p (List.mem_of_mem_eraseIdx hp')
      refine put_call G F₈.keep hr0 R (N₈.get (.head _)) (by have := List.length_eraseIdx_le qs (k + 1); omega) (by rw [erase_map]; exact hqs.erase _) hce ((hqc _ (List.getElem_mem hlt)).drop _) fun h₉ tk₉ qs' n₉ x₉ o₉ e₉ m₉ => ?_
      have F₉ := F₈.but x₉ (N₈ _ (.head _)).2.1 hr0
      have N₉ : News s.heap s.heap.objs.size h₉ [(r, listOf (List.map sv qs').toArray n₉)] := by
        intro p hp'
        simp at hp'; subst hp'
        exact ⟨o₉, (N₈ _ (.head _)).2⟩
      refine wpAny_execs_cons (wpAny_Assign_Name (wpAny_Constant_int (stv F₉ N₉ fun h₁₀ tk₁₀ F₁₀ N₁₀ => wpAny_execs_nil (wpAny_execs_nil ?_))))
      dsimp only at F₁₀ N₁₀ ⊢
      refine ⟨f, Nat.lt_succ_self _, h₁₀, tk₁₀, _, 0, _, qs', n₉, rfl, F₁₀, N₁₀, by walk_at "lk", by walk_at "lk", ?_, ?_, ?_, ?_, ?_⟩
      · have h1 := congrArg List.length e₉
        rw [List.length_map] at h1
        have h2 := length_putL_le ((qs.eraseIdx (k + 1)).map (·.1)) (qs[k + 1].1.drop qs[k].1.length)
        rw [List.length_map, List.length_eraseIdx, if_pos hlt] at h2
        omega
      · rw [e₉, erase_map]; exact (hqs.erase _).putL
      · intro p hp'
        rcases m₉ p hp' with q | q
        · exact hce p q
        · subst q; exact (hqc _ (List.getElem_mem hlt)).drop _
      · intro p hp'
        rcases m₉ p hp' with q | q
        · exact hqlen p (List.mem_of_mem_eraseIdx q)
        · subst q; simp; omega
      · rw [e₉, ← hqres, erase_map]
    · rw [if_neg hp] at hqres
      rw [if_neg (by simpa using hp)]
      refine wpAny_execs_cons (wpAny_AugAssign_Name (ldnv F' mk (wpAny_Constant_int (wpAny_iadd_int (stv F' N' fun h₆ tk₆ F₆ N₆ => wpAny_execs_nil (wpAny_execs_nil ?_))))))
      dsimp only at F₆ N₆ ⊢
      exact ⟨f, Nat.lt_succ_self _, h₆, tk₆, _, k + 1, _, qs, n, rfl, F₆, N₆, by walk_at "lk", by walk_at "lk", hql, hqs, hqc, hqlen, hqres⟩
  · rw [if_neg (by simp; omega)]
    have e : qs.map (·.1) = res := by
      unfold partsL at hqres
      have : (qs.map (·.1))[k + 1]? = none := by simp; omega
      rw [this] at hqres
      split at hqres
      · rename_i h2; cases h2
      · exact Option.some.inj hqres
    refine wpAny_execs_cons (wpAny_Return_some (ldv F' mp ?_))
    exact h _ _ r qs n F'.keep hr0 (N'.get (.head _)) e
end Mine

namespace Mine

noncomputable def hideL (h : Heap) : List Addr → Heap
  | [] => h
  | a :: r => hideL (h.hide a) r
theorem hideL_out : ∀ (as : List Addr) (h : Heap) (b : Addr), b ∉ as → (hideL h as).get? b = h.get? b
  | [], _, _, _ => rfl
  | a :: r, h, b, q => by
    unfold hideL
    rw [hideL_out r _ b (fun c => q (.tail _ c))]
    exact Heap.hide_ne _ (fun c => q (by rw [c]; exact .head _))
theorem hideL_of : ∀ (as : List Addr) (h : Heap) (b : Addr) (o : Obj), (hideL h as).get? b = some o → h.get? b = some o
  | [], _, _, _, e => e
  | a :: r, h, b, o, e => Heap.of_hide (hideL_of r _ b o e)
theorem hideL_in : ∀ (as : List Addr) (h : Heap) (b : Addr), b ∈ as → (hideL h as).get? b = none := by
  intro as
  induction as with
  | nil => intro h b q; cases q
  | cons a r ih =>
    intro h b q
    rcases List.mem_cons.mp q with c | c
    · cases e : (hideL h (a :: r)).get? b with
      | none => rfl
      | some o =>
        unfold hideL at e
        have := hideL_of r _ b o e
        rw [c, Heap.hide_self] at this; cases this
    · unfold hideL; exact ih _ b c

theorem rebase {B h : Heap} {L : Addr} {m : Str → Option Value} {led : List (Addr × Obj)} (F : Loc B L h m) (N : News B L h led) :
    ∃ B', Grown B B' ∧ Loc B' L h m ∧ News B' L h led ∧ ∀ b o, h.get? b = some o → b ≠ L → (∀ p ∈ led, p.1 ≠ b) → B'.get? b = some o := by
  refine ⟨hideL h (L :: led.map (·.1)), fun b o e => ?_, ⟨F.ns, fun b o e => hideL_of _ _ _ _ e, hideL_in _ _ _ (.head _)⟩, fun p hp => ⟨(N p hp).1, (N p hp).2.1, hideL_in _ _ _ (.tail _ (List.mem_map_of_mem hp))⟩, fun b o e hb hl => ?_⟩
  · rw [hideL_out _ _ _ fun q => ?_]
    · exact F.keep b o e
    · rcases List.mem_cons.mp q with c | c
      · rw [c, F.free] at e; cases e
      · obtain ⟨p, hp, rfl⟩ := List.mem_map.mp c
        rw [(N p hp).2.2] at e; cases e
  · rw [hideL_out _ _ _ fun q => ?_]
    · exact e
    · rcases List.mem_cons.mp q with c | c
      · exact hb c
      · obtain ⟨p, hp, c⟩ := List.mem_map.mp c
        exact hl p hp c

noncomputable abbrev upS (s : Shared) (h : Heap) (tk : Nat) : Shared := { s with heap := h, toks := tk }
inductive NextIt (u : Heap → Nat → Shared) (B' : Heap) (L : Addr) (I : Addr) (o' : Obj) (J : Heap → (Str → Option Value) → List (Addr × Obj) → Prop) (s' : Shared) : Prop
  | mk : ∀ B'' h' tk' m'' led'', s' = u h' tk' → Grown B' B'' → Loc B'' L h' m'' → News B'' L h' ((I, o') :: led'') → (∀ p ∈ led'', p.1 ≠ I) → J B'' m'' led'' → NextIt u B' L I o' J s'
inductive ItI (s : Shared) (B : Heap) (L : Addr) (I : Addr) (Ob : Nat → Obj → Prop) (J : Nat → Heap → (Str → Option Value) → List (Addr × Obj) → Prop) (n k : Nat) (s' : Shared) : Prop
  | mk : ∀ i B' h tk m' led' o', s' = { s with heap := h, toks := tk } → Grown B B' → Loc B' L h m' → News B' L h ((I, o') :: led') → (∀ p ∈ led', p.1 ≠ I) → Ob i o' → J i B' m' led' → i ≤ n → k = n + 1 - i → ItI s B L I Ob J n k s'

section
variable {w : World} {A : Around} {E : Value → Shared → Prop} {s : Shared} {env : Env} {L : Addr} {B : Heap} {m mg mb : Str → Option Value} {led : List (Addr × Obj)} {ad : Nat → Addr}

theorem ldE {x : Str} {pos : Pos} {v : Value} {Q : Value → Shared → Prop} (F : Loc B L s.heap m) (hv : m x = some v) (h : Q v s)
    (hL : env.locals = L := by rfl) (hk : env.scope.kind = .function := by rfl) (hl : env.kindOf x = some .local := by rfl) (hd : (x == ("__debug__" : Str)) = false := by decide) :
    wpAny (model P0 w) A (eval (.Name x pos) env) Q E s := wpAny_Name (wpAny_loadName_local hk hl (hL ▸ F.ns) hv h) hd
theorem ldnE {x : Str} {v : Value} {Q : Value → Shared → Prop} (F : Loc B L s.heap m) (hv : m x = some v) (h : Q v s)
    (hL : env.locals = L := by rfl) (hk : env.scope.kind = .function := by rfl) (hl : env.kindOf x = some .local := by rfl) :
    wpAny (model P0 w) A (loadName env x) Q E s := wpAny_loadName_local hk hl (hL ▸ F.ns) hv h
theorem stE {x : Str} {v : Value} {Q : Unit → Shared → Prop} (F : Loc B L s.heap m) (N : News B L s.heap led)
    (h : ∀ h' tk, Loc B L h' (upd m x v) → News B L h' led → Q () { s with heap := h', toks := tk })
    (hL : env.locals = L := by rfl) (hk : env.scope.kind = .function := by rfl) (hl : env.kindOf x = some .local := by rfl) :
    wpAny (model P0 w) A (storeName env x v) Q E s := by
  subst hL
  exact wpAny_storeName_local hl F.ns (fun h' hn hs => h h' _ (F.set hn hs) (N.set hs))
    (by rw [hk]; rfl)
theorem ldC {x : Str} {c : Addr} {pos : Pos} {v : Value} {Q : Value → Shared → Prop} (hv : s.heap.IsCell c (some v)) (h : Q v s)
    (hc : env.cells.lookup x = some c := by rfl) (hk : env.scope.kind = .function := by rfl) (hl : env.kindOf x = some .cell := by rfl) (hd : (x == ("__debug__" : Str)) = false := by decide) :
    wpAny (model P0 w) A (eval (.Name x pos) env) Q E s := wpAny_Name (wpAny_loadName_cell hk hl hc hv h) hd
theorem ldF {x : Str} {c : Addr} {pos : Pos} {v : Value} {Q : Value → Shared → Prop} (hv : s.heap.IsCell c (some v)) (h : Q v s)
    (hc : env.cells.lookup x = some c := by rfl) (hk : env.scope.kind = .function := by rfl) (hl : env.kindOf x = some .free := by rfl) (hd : (x == ("__debug__" : Str)) = false := by decide) (hn : (x == ("__classdict__" : Str)) = false := by decide) :
    wpAny (model P0 w) A (eval (.Name x pos) env) Q E s := wpAny_Name (wpAny_loadName_free hk hl hc hv h hn) hd
theorem stC {x : Str} {c : Addr} {o : Obj} {v₀ : Option Value} {v : Value} {pre post : List (Addr × Obj)} {Q : Unit → Shared → Prop} (F : Loc B L s.heap m) (N : News B L s.heap (pre ++ (c, o) :: post)) (ho : o.data = .cell v₀)
    (h1 : ∀ p ∈ pre, p.1 ≠ c) (h2 : ∀ p ∈ post, p.1 ≠ c)
    (h : ∀ h' o', o'.data = .cell (some v) → Loc B L h' m → News B L h' (pre ++ (c, o') :: post) → Q () { s with heap := h' })
    (hc : env.cells.lookup x = some c := by rfl) (hk : env.scope.kind = .function := by rfl) (hl : env.kindOf x = some .cell := by rfl) :
    wpAny (model P0 w) A (storeName env x v) Q E s := by
  have hm : (c, o) ∈ pre ++ (c, o) :: post := List.mem_append_right _ (.head _)
  refine wpAny_storeName_cell hk hl hc ⟨o, (N _ hm).1, ho⟩ fun h' hc' hs => ?_
  obtain ⟨o', ho', hd'⟩ := hc'
  exact h h' o' hd' (F.change hs (N _ hm).2.1 (N _ hm).2.2) (News.turn N hs ho' h1 h2)
theorem ldbE {x : Str} {pos : Pos} {v : Value} {Q : Value → Shared → Prop} (F : Loc B L s.heap m) (G : Gnd ad mg mb B) (hv : bootBuiltins x = some v) (h : Q v s) (hm : x ∈ bnames := by decide) (hn : x ≠ "__name__" := by decide)
    (hg : env.globals = mainGlobals := by rfl) (hb : env.builtins = builtinsNs := by rfl) (hk : env.scope.kind = .function := by rfl) (hx : env.kindOf x = some .globalImplicit := by rfl) (hd : (x == ("__debug__" : Str)) = false := by decide) :
    wpAny (model P0 w) A (eval (.Name x pos) env) Q E s :=
  Calls.Name_function_global hk hx (Calls.loadGlobal_builtin (env := env) (hg ▸ G.g.keeps F.keep) (G.free x hm) (hb ▸ G.b.keeps F.keep) ((G.builtins x hn).trans hv) h) hd
theorem ldgE {x : Str} {pos : Pos} {v : Value} {Q : Value → Shared → Prop} (F : Loc B L s.heap m) (G : Gnd ad mg mb B) (hv : mg x = some v) (h : Q v s)
    (hg : env.globals = mainGlobals := by rfl) (hk : env.scope.kind = .function := by rfl) (hx : env.kindOf x = some .globalImplicit := by rfl) (hd : (x == ("__debug__" : Str)) = false := by decide) :
    wpAny (model P0 w) A (eval (.Name x pos) env) Q E s :=
  Calls.Name_function_global hk hx (Calls.loadGlobal_global (env := env) (hg ▸ G.g.keeps F.keep) hv h) hd

structure Iter (w : World) (A : Around) (K : Heap → Prop) (I : Addr) (n : Nat) (P : Nat → Value → Prop) (Ob : Nat → Obj → Prop) : Prop where
  item : ∀ i (s : Shared) (o : Obj) (Q : Option Value → Shared → Prop) (E : Value → Shared → Prop), i < n → K s.heap → s.heap.get? I = some o → Ob i o →
    (∀ v h' tk o', P i v → Heap.SameBut I s.heap h' → h'.get? I = some o' → Ob (i + 1) o' → Q (some v) { s with heap := h', toks := tk }) → wpAny (model P0 w) A (pyNext (.ref I)) Q E s
  done : ∀ (s : Shared) (o : Obj) (Q : Option Value → Shared → Prop) (E : Value → Shared → Prop), K s.heap → s.heap.get? I = some o → Ob n o →
    (∀ h', Heap.ExtBut I s.heap h' → Q none { s with heap := h' }) → wpAny (model P0 w) A (pyNext (.ref I)) Q E s
  self : ∀ i (s : Shared) (o : Obj) (Q : Value → Shared → Prop) (E : Value → Shared → Prop), s.heap.get? I = some o → Ob i o → Q (.ref I) s → wpAny (model P0 w) A (pyIter (.ref I)) Q E s

noncomputable def LIt (l : Addr) (i : Nat) (o : Obj) : Prop := o.cls = .type "list_iterator" ∧ o.data = .fields #[.ref l, .int i 0]
theorem Iter.list (hh : A.handled = none) (I l : Addr) (items : Array Value) : Iter w A (fun h => h.IsList l items) I items.size (fun i v => items[i]? = some v) (LIt l) where
  item := fun i s o Q E hi hk ho hO hQ => by
    refine wpAny_pyNext_list_item (i := i) ⟨o, ho, hO⟩ hk (x := items[i]) (by simp [hi]) fun h' hx hs' => ?_
    obtain ⟨o', ho', hO'⟩ := hx
    exact hQ _ h' s.toks o' (by simp [hi]) hs' ho' hO'
  done := fun s o Q E hk ho hO hQ => wpAny_pyNext_list_end hh ⟨o, ho, hO⟩ hk (by simp) hQ
  self := fun i s o Q E ho hO hQ => wpAny_pyIter_listiter ⟨o, ho, hO⟩ hQ
noncomputable def RIt (a : Int) (n i : Nat) (o : Obj) : Prop := o = { cls := .type "range_iterator", data := .fields #[rawInt (a + (i : Nat)), rawInt ((n : Int) - (i : Nat)), rawInt 1] }
theorem Iter.range (hh : A.handled = none) (I : Addr) (a : Int) (n : Nat) : Iter w A (fun _ => True) I n (fun i v => ∃ t, v = .int (a + (i : Nat)) t) (RIt a n) where
  item := fun i s o Q E hi hk ho hO hQ => by
    subst hO
    refine wpAny_pyNext_range_item (it := I) (x := a + (i : Nat)) (left := (n : Int) - (i : Nat)) (step := 1) ho (by omega) fun h' hit' hs' => ?_
    refine hQ _ h' _ _ ⟨_, rfl⟩ hs' hit' ?_
    unfold RIt
    have e1 : a + ((i + 1 : Nat) : Int) = a + (i : Int) + 1 := by omega
    have e2 : (n : Int) - ((i + 1 : Nat) : Int) = (n : Int) - (i : Int) - 1 := by omega
    rw [e1, e2]
  done := fun s o Q E hk ho hO hQ => by
    subst hO
    exact wpAny_pyNext_range_end hh (it := I) (x := a + (n : Nat)) (left := (n : Int) - (n : Nat)) (step := 1) ho (by omega) hQ
  self := fun i s o Q E ho hO hQ => by
    subst hO
    exact wpAny_pyIter_rangeiter (it := I) (x := a + (i : Nat)) (left := (n : Int) - (i : Nat)) (step := 1) ho hQ
noncomputable def SIt (x : Str) (t : Tok) (i : Nat) (o : Obj) : Prop := o.cls = .type (if x.cps.all (· < 128) then "str_ascii_iterator" else "str_iterator") ∧ o.data = .fields #[.str x t, .int i 0]
theorem Iter.str (hh : A.handled = none) (I : Addr) (x : Str) (t : Tok) : Iter w A (fun _ => True) I x.cps.size (SignAt x) (SIt x t) where
  item := fun i s o Q E hi hk ho hO hQ => by
    unfold SIt at hO
    cases ha : x.cps.all (· < 128)
    · rw [ha] at hO
      refine wpAny_pyNext_wide_item (i := i) ⟨o, ho, hO⟩ (c := x.cps[i]) (by simp [hi]) fun h' hx hs' => ?_
      obtain ⟨o', ho', hO'⟩ := hx
      exact hQ _ h' (s.toks + 1) o' ⟨_, _, by simp [hi], rfl⟩ hs' ho' (by unfold SIt; rw [ha]; exact hO')
    · rw [ha] at hO
      refine wpAny_pyNext_ascii_item (i := i) ⟨o, ho, hO⟩ (c := x.cps[i]) (by simp [hi]) fun h' hx hs' => ?_
      obtain ⟨o', ho', hO'⟩ := hx
      exact hQ _ h' (s.toks + 1) o' ⟨_, _, by simp [hi], rfl⟩ hs' ho' (by unfold SIt; rw [ha]; exact hO')
  done := fun s o Q E hk ho hO hQ => by
    unfold SIt at hO
    cases ha : x.cps.all (· < 128)
    · rw [ha] at hO
      exact wpAny_pyNext_wide_end hh ⟨o, ho, hO⟩ (by simp) hQ
    · rw [ha] at hO
      exact wpAny_pyNext_ascii_end hh ⟨o, ho, hO⟩ (by simp) hQ
  self := fun i s o Q E ho hO hQ => by
    unfold SIt at hO
    cases ha : x.cps.all (· < 128)
    · rw [ha] at hO
      exact wpAny_pyIter_striter_wide ⟨o, ho, hO⟩ hQ
    · rw [ha] at hO
      exact wpAny_pyIter_striter_ascii ⟨o, ho, hO⟩ hQ

theorem iter_list {l : Addr} {items : Array Value} {Q : Value → Shared → Prop} (hl : s.heap.IsList l items)
    (h : ∀ h' I o, Grown s.heap h' → s.heap.get? I = none → h'.get? I = some o → LIt l 0 o → Q (.ref I) { s with heap := h' }) : wpAny (model P0 w) A (pyIter (.ref l)) Q E s :=
  wpAny_pyIter_list hl (h _ _ _ (Grown.push _ _) (get_size _) (Heap.get?_push_size _ rfl) ⟨rfl, rfl⟩)
theorem iter_str {x : Str} {t : Tok} {Q : Value → Shared → Prop}
    (h : ∀ h' I o, Grown s.heap h' → s.heap.get? I = none → h'.get? I = some o → SIt x t 0 o → Q (.ref I) { s with heap := h' }) : wpAny (model P0 w) A (pyIter (.str x t)) Q E s := by
  cases ha : x.cps.all (· < 128)
  · exact wpAny_pyIter_wide ha (h _ _ _ (Grown.push _ _) (get_size _) (Heap.get?_push_size _ rfl) (by unfold SIt; rw [ha]; exact ⟨rfl, rfl⟩))
  · exact wpAny_pyIter_ascii ha (h _ _ _ (Grown.push _ _) (get_size _) (Heap.get?_push_size _ rfl) (by unfold SIt; rw [ha]; exact ⟨rfl, rfl⟩))

theorem for_it {target : Expr} {body : List Stmt} {I : Addr} {n : Nat} {K : Heap → Prop} {P : Nat → Value → Prop} {Ob : Nat → Obj → Prop} {Q : Result → Shared → Prop} {oI : Obj}
    (W : Iter w A K I n P Ob) (hK : ∀ h, Grown B h → K h)
    (J : Nat → Heap → (Str → Option Value) → List (Addr × Obj) → Prop)
    (F : Loc B L s.heap m) (N : News B L s.heap ((I, oI) :: led)) (hnd : ∀ p ∈ led, p.1 ≠ I) (h0 : Ob 0 oI) (hJ : J 0 B m led)
    (step : ∀ i v B' h tk m' led' o', i < n → P i v → Grown B B' → Loc B' L h m' → News B' L h ((I, o') :: led') → (∀ p ∈ led', p.1 ≠ I) → J i B' m' led' →
      wpAny (model P0 w) A (assign target env v) (fun _ s₂ => wpAny (model P0 w) A (execs body env) (fun f s₃ => match f with
        | .next | .cont => NextIt (upS s) B' L I o' (J (i + 1)) s₃
        | .brk => Q (.ok .next) s₃
        | .ret v => Q (.ok (.ret v)) s₃) NoE s₂) NoE { s with heap := h, toks := tk })
    (hR : ∀ B' h tk m' led', Grown B B' → Loc B' L h m' → News B' L h led' → J n B' m' led' → Q (.ok .next) { s with heap := h, toks := tk })
    (hgo : ∀ i (s' : Shared) v (Q' : Unit → Shared → Prop) (E' : Value → Shared → Prop) o', s'.heap.get? I = some o' → Ob i o' → P (i - 1) v → 0 < i → Q' () s' → wpAny (model P0 w) A (letOwnedTupleGo target (.ref I) v) Q' E' s') :
    codeAny (model P0 w) A (.forLoop target (.ref I) body [] env) Q s := by
  refine codeAny_forLoop_any (fun k s' => ItI s B L I Ob J n k s') ?_ (n + 1)
    ⟨0, B, s.heap, s.toks, m, led, oI, rfl, fun _ _ e => e, F, N, hnd, h0, hJ, Nat.zero_le _, rfl⟩
  rintro k s' ⟨i, B', h, tk, m', led', o', rfl, hg, F', N', hnd', hO, hJ', hi, rfl⟩
  have hI := N' _ (.head _)
  rcases Nat.lt_or_ge i n with hlt | hge
  · refine W.item i _ o' _ _ hlt (hK _ (hg.trans F'.keep)) hI.1 hO fun v h₁ tk₁ o₁ hv hs₁ ho₁ hO₁ => ?_
    have F₁ := F'.change hs₁ hI.2.1 hI.2.2
    have N₁ : News B' L h₁ ((I, o₁) :: led') := News.turn (pre := []) N' hs₁ ho₁ (fun p hp => noMem hp) hnd'
    refine hgo (i + 1) _ v _ _ o₁ ho₁ hO₁ hv (Nat.succ_pos _) ?_
    refine wpAny_mono (step i v B' h₁ tk₁ m' led' o₁ hlt hv hg F₁ N₁ hnd' hJ') (fun _ s₂ h₂ => wpAny_mono h₂ (fun f s₃ h₃ => ?_) fun _ _ q => q.elim) fun _ _ q => q.elim
    have next : NextIt (upS s) B' L I o₁ (J (i + 1)) s₃ → ∃ m, m < n + 1 - i ∧ ItI s B L I Ob J n m s₃ := by
      rintro ⟨B'', h', tk', m'', led'', rfl, hg', F'', N'', hnd'', hJ''⟩
      exact ⟨n + 1 - (i + 1), Nat.sub_lt_sub_left (Nat.lt_succ_of_lt hlt) (Nat.lt_succ_self _), i + 1, B'', h', tk', m'', led'', o₁, rfl, hg.trans hg', F'', N'', hnd'', hO₁, hJ'', hlt, rfl⟩
    cases f with
    | next => exact next h₃
    | cont => exact next h₃
    | brk => exact h₃
    | ret v => exact h₃
  · have e : i = n := Nat.le_antisymm hi hge
    subst e
    refine W.done _ o' _ _ (hK _ (hg.trans F'.keep)) hI.1 hO fun h₁ he₁ => wpAny_execs_nil ?_
    exact hR B' h₁ tk m' led' hg (F'.but he₁ hI.2.1 hI.2.2) (News.but' N'.tail' he₁ hnd') hJ'
end
end Mine

namespace Mine

noncomputable abbrev testsOf (ifs : List Expr) (env : Env) : Sem Bool :=
  forIn ifs true fun c r => if r = true then do let ok ← isTrue c env (eval c env); pure (ForInStep.yield ok) else pure (ForInStep.yield r)

theorem compTurn_last {elt target iter : Expr} {ifs : List Expr} {gens : List Comprehension} {d : Nat} {scope : Scope} {pos : Pos} {it acc : Value} {env : Env}
    (hg : gens[d]? = some ⟨target, iter, ifs, 0⟩) (hn : gens[d + 1]? = none) :
    compTurn (.ListComp elt gens scope pos) d it acc env = (do
      standAt iter.pos
      match ← pyNext it with
      | none => pure (.done .next)
      | some v =>
        letOwnedTupleGo target it v
        assign target env v
        let ok ← testsOf ifs env
        if ok then
          (do let _ ← call (.builtin "list.append") [acc, ← eval elt env])
        again (.compLoop (.ListComp elt gens scope pos) d it acc env)) := by
  unfold compTurn
  simp only [hg, hn]
  rfl

theorem compTurn_more {elt target iter : Expr} {ifs : List Expr} {gens : List Comprehension} {g' : Comprehension} {d : Nat} {scope : Scope} {pos : Pos} {it acc : Value} {env : Env}
    (hg : gens[d]? = some ⟨target, iter, ifs, 0⟩) (hn : gens[d + 1]? = some g') (ha : g'.is_async = 0) :
    compTurn (.ListComp elt gens scope pos) d it acc env = (do
      standAt iter.pos
      match ← pyNext it with
      | none => pure (.done .next)
      | some v =>
        letOwnedTupleGo target it v
        assign target env v
        let ok ← testsOf ifs env
        if ok then
          (do let x ← eval g'.iter env
              standAt g'.iter.pos
              let x ← foldedSetIterable g'.iter env x
              let y ← holding [x] (pyIter x)
              let _ ← runOwn (.compStart (.ListComp elt gens scope pos) (d + 1) y acc env) env
              again (.compLoop (.ListComp elt gens scope pos) d it acc env))
        else again (.compLoop (.ListComp elt gens scope pos) d it acc env)) := by
  unfold compTurn
  simp only [hg, hn, ha]
  rfl

inductive NextC (u : Heap → Nat → Shared) (B' : Heap) (C : Addr) (led : List (Addr × Obj)) (J : Heap → (Str → Option Value) → Prop) (s' : Shared) : Prop
  | mk : ∀ B'' h' tk' m'', s' = u h' tk' → Grown B' B'' → Loc B'' C h' m'' → News B'' C h' led → J B'' m'' → NextC u B' C led J s'
inductive NextD (s : Shared) (B' : Heap) (C I D : Addr) (o' : Obj) (led : List (Addr × Obj)) (J : Heap → (Str → Option Value) → List Value → Prop) (s' : Shared) : Prop
  | mk : ∀ B'' h' tk' m'' acc'' k'', s' = { s with heap := h', toks := tk' } → Grown B' B'' → Loc B'' C h' m'' → News B'' C h' ((I, o') :: (D, listOf acc''.toArray k'') :: led) → J B'' m'' acc'' → NextD s B' C I D o' led J s'
inductive CompI (s : Shared) (B : Heap) (C I D : Addr) (led : List (Addr × Obj)) (Ob : Nat → Obj → Prop) (J : Nat → Heap → (Str → Option Value) → List Value → Prop) (n j : Nat) (s' : Shared) : Prop
  | mk : ∀ i B' h tk m' acc' k o', s' = { s with heap := h, toks := tk } → Grown B B' → Loc B' C h m' → News B' C h ((I, o') :: (D, listOf acc'.toArray k) :: led) → Ob i o' → J i B' m' acc' → i ≤ n → j = n + 1 - i → CompI s B C I D led Ob J n j s'
inductive Comp1 (w : World) (A : Around) (E : Value → Shared → Prop) (env : Env) (elt target : Expr) (ifs : List Expr) (scope : Scope) (cl : List (Str × Addr)) (use : Option (Value → Sem Unit)) (Q : Value → Shared → Prop) (it : Value) (s₂ : Shared) : Prop
  | mk : ∀ (I : Addr) (n : Nat) (P : Nat → Value → Prop) (Ob : Nat → Obj → Prop) (K : Heap → Prop) (oI : Obj) (J : Nat → Heap → List Value → Prop), it = .ref I → Iter w A K I n P Ob → (∀ h, Grown (s₂.heap.hide I) h → K h) → s₂.heap.get? I = some oI → Ob 0 oI →
      J 0 (s₂.heap.hide I) [] → (∀ i B' acc', J i B' acc' → acc'.length < 1000000) →
      (∀ i v C D B' h tk m' acc' k o', i < n → P i v → Grown (s₂.heap.hide I) B' → Loc B' C h m' → News B' C h [(I, o'), (D, listOf acc'.toArray k)] → J i B' acc' →
        wpAny (model P0 w) A (assign target (compEnvC scope cl C env) v) (fun _ s₂' => wpAny (model P0 w) A (testsOf ifs (compEnvC scope cl C env)) (fun ok s₃ => if ok = true then
          wpAny (model P0 w) A (eval elt (compEnvC scope cl C env)) (fun x s₄ => NextC (upS s₂) B' C [(I, o'), (D, listOf acc'.toArray k)] (fun B'' _ => J (i + 1) B'' (acc' ++ [x])) s₄) NoE s₃
        else NextC (upS s₂) B' C [(I, o'), (D, listOf acc'.toArray k)] (fun B'' _ => J (i + 1) B'' acc') s₃) NoE s₂') NoE { s₂ with heap := h, toks := tk }) →
      (∀ B' C h tk m' D acc' k, Grown (s₂.heap.hide I) B' → Loc B' C h m' → News B' C h [(D, listOf acc'.toArray k)] → J n B' acc' → compPost (model P0 w) A E use Q (.ref D) C (.ok .next) { s₂ with heap := h, toks := tk }) → Comp1 w A E env elt target ifs scope cl use Q it s₂

section
variable {w : World} {A : Around} {E : Value → Shared → Prop} {s : Shared} {env : Env} {C D I : Addr} {B : Heap} {m : Str → Option Value} {led : List (Addr × Obj)}

theorem comp_last {elt target iter : Expr} {ifs : List Expr} {gens : List Comprehension} {d : Nat} {scope : Scope} {pos : Pos} {n : Nat} {K : Heap → Prop} {P : Nat → Value → Prop} {Ob : Nat → Obj → Prop} {R : Result → Shared → Prop} {oI : Obj} {acc : List Value} {kD : Nat}
    (hg : gens[d]? = some ⟨target, iter, ifs, 0⟩) (hn : gens[d + 1]? = none)
    (W : Iter w A K I n P Ob) (hK : ∀ h, Grown B h → K h) (J : Nat → Heap → (Str → Option Value) → List Value → Prop)
    (F : Loc B C s.heap m) (N : News B C s.heap ((I, oI) :: (D, listOf acc.toArray kD) :: led)) (hDI : D ≠ I) (hndI : ∀ p ∈ led, p.1 ≠ I) (hndD : ∀ p ∈ led, p.1 ≠ D) (h0 : Ob 0 oI) (hJ : J 0 B m acc)
    (hsz : ∀ i B' m' acc', J i B' m' acc' → acc'.length < 1000000)
    (step : ∀ i v B' h tk m' acc' k o', i < n → P i v → Grown B B' → Loc B' C h m' → News B' C h ((I, o') :: (D, listOf acc'.toArray k) :: led) → J i B' m' acc' →
      wpAny (model P0 w) A (assign target env v) (fun _ s₂ => wpAny (model P0 w) A (testsOf ifs env) (fun ok s₃ => if ok = true then
          wpAny (model P0 w) A (eval elt env) (fun x s₄ => NextC (upS s) B' C ((I, o') :: (D, listOf acc'.toArray k) :: led) (fun B'' m'' => J (i + 1) B'' m'' (acc' ++ [x])) s₄) NoE s₃
        else NextC (upS s) B' C ((I, o') :: (D, listOf acc'.toArray k) :: led) (fun B'' m'' => J (i + 1) B'' m'' acc') s₃) NoE s₂) NoE { s with heap := h, toks := tk })
    (hR : ∀ B' h tk m' acc' k, Grown B B' → Loc B' C h m' → News B' C h ((D, listOf acc'.toArray k) :: led) → J n B' m' acc' → R (.ok .next) { s with heap := h, toks := tk })
    (hgo : ∀ v, letOwnedTupleGo target (.ref I) v = pure () := by intro _; rfl) :
    codeAny (model P0 w) A (.compLoop (.ListComp elt gens scope pos) d (.ref I) (.ref D) env) R s := by
  refine codeAny_loop rfl (fun j s' => CompI s B C I D led Ob J n j s') ?_ (n + 1)
    ⟨0, B, s.heap, s.toks, m, acc, kD, oI, rfl, fun _ _ e => e, F, N, h0, hJ, Nat.zero_le _, rfl⟩
  rintro j s' ⟨i, B', h, tk, m', acc', k, o', rfl, hgr, F', N', hO, hJ', hi, rfl⟩
  show wpAny _ A ((compTurn (.ListComp elt gens scope pos) d (.ref I) (.ref D) env).onRaise (fun x => do noteFrame x env; theTreesLotGoes x)) _ _ _
  refine wpAny_noted ?_
  rw [compTurn_last hg hn]
  have hI := N' _ (.head _)
  have hndI' : ∀ p ∈ (D, listOf acc'.toArray k) :: led, p.1 ≠ I := fun p hp => by
    rcases List.mem_cons.mp hp with rfl | q
    · exact hDI
    · exact hndI p q
  rcases Nat.lt_or_ge i n with hlt | hge
  · refine wpAny_bind (wpAny_standAt (wpAny_bind (W.item i _ o' _ _ hlt (hK _ (hgr.trans F'.keep)) hI.1 hO fun v h₁ tk₁ o₁ hv hs₁ ho₁ hO₁ => ?_)))
    have F₁ := F'.change hs₁ hI.2.1 hI.2.2
    have N₁ : News B' C h₁ ((I, o₁) :: (D, listOf acc'.toArray k) :: led) := News.turn (pre := []) N' hs₁ ho₁ (fun p hp => noMem hp) hndI'
    refine wpAny_bind (wpAny_of_eq (hgo v) ?_)
    refine wpAny_bind (wpAny_mono (step i v B' h₁ tk₁ m' acc' k o₁ hlt hv hgr F₁ N₁ hJ') (fun _ s₂ h₂ => wpAny_bind (wpAny_mono h₂ (fun ok s₃ h₃ => ?_) fun _ _ q => q.elim)) fun _ _ q => q.elim)
    cases ok with
    | false =>
      simp only [Bool.false_eq_true, if_false] at h₃ ⊢
      obtain ⟨B'', h', tk', m'', rfl, hg', F'', N'', hJ''⟩ := h₃
      exact wpAny_pure ⟨rfl, n + 1 - (i + 1), Nat.sub_lt_sub_left (Nat.lt_succ_of_lt hlt) (Nat.lt_succ_self _), i + 1, B'', h', tk', m'', acc', k, o₁, rfl, hgr.trans hg', F'', N'', hO₁, hJ'', hlt, rfl⟩
    | true =>
      simp only [if_true] at h₃ ⊢
      refine wpAny_bind (wpAny_bind (wpAny_mono h₃ (fun x s₄ h₄ => wpAny_bind ?_) fun _ _ q => q.elim))
      obtain ⟨B'', h', tk', m'', rfl, hg', F'', N'', hJ''⟩ := h₄
      have hD := N'' _ (.tail _ (.head _))
      refine append_to hD.1 (line_ok (hsz _ _ _ _ hJ')) fun h₅ hs₅ ho₅ => wpAny_pure (wpAny_pure ⟨rfl, n + 1 - (i + 1), Nat.sub_lt_sub_left (Nat.lt_succ_of_lt hlt) (Nat.lt_succ_self _), i + 1, B'', h₅, tk', m'', acc' ++ [x], k + 1, o₁, rfl, hgr.trans hg', F''.change hs₅ hD.2.1 hD.2.2, ?_, hO₁, hJ'', hlt, rfl⟩)
      exact News.turn (pre := [(I, o₁)]) N'' hs₅ ho₅ (fun p hp => by simp at hp; subst hp; exact hDI.symm) hndD
  · have e : i = n := Nat.le_antisymm hi hge
    subst e
    refine wpAny_bind (wpAny_standAt (wpAny_bind (W.done _ o' _ _ (hK _ (hgr.trans F'.keep)) hI.1 hO fun h₁ he₁ => wpAny_pure ?_)))
    exact hR B' h₁ tk m' acc' k hgr (F'.but he₁ hI.2.1 hI.2.2) (News.but' N'.tail' he₁ hndI') hJ'

theorem comp1 {elt target iter : Expr} {ifs : List Expr} {scope : Scope} {cl : List (Str × Addr)} {pos : Pos} {use : Option (Value → Sem Unit)} {ep : Pos} {Q : Value → Shared → Prop}
    (hclos : closureFor scope env = pure cl)
    (h : wpAny (model P0 w) A (eval iter env) (fun xv s₁ => wpAny (model P0 w) A (pyIter xv) (fun it s₂ => Comp1 w A E env elt target ifs scope cl use Q it s₂) E s₁) E s)
    (hgo : ∀ I v, letOwnedTupleGo target (.ref I) v = pure () := by intro _ _; rfl)
    (hs : ∀ x, foldedSetIterable iter env x = pure x := by intro _; rfl)
    (hcell : ∀ y ∈ scope.names, y.2 ≠ .cell := by decide) (hkind : scope.kind = .function := by rfl) (hnames : ∀ y ∈ scope.names, y.2 = .local → scope.names.lookup y.1 = some .local := by decide) :
    wpAny (model P0 w) A (comprehension (.ListComp elt [⟨target, iter, ifs, 0⟩] scope pos) scope env ep (newList []) false (eval iter env) use) Q E s := by
  refine wpAny_comprehension_free rfl hs hclos hkind hnames (wpAny_mono h (fun xv s₁ h₁ => wpAny_mono h₁ (fun it s₂ h₂ => ?_) fun _ _ e => e) fun _ _ e => e)
  obtain ⟨I, n, P, Ob, K, oI, J, rfl, W, hK, hoI, hO, hJ0, hsz, step, hR⟩ := h₂
  refine wpAny_newObj_type (wpAny_newFunctionEnv hcell (by intro y hy; simp at hy) (fun h₁ hns₁ hsb₁ => ?_) hkind)
  dsimp only at hns₁ hsb₁ ⊢
  generalize hH2 : s₂.heap.push { cls := .type "list", dict := none, data := .seq ([] : List Value).toArray } = H2 at hns₁ hsb₁ ⊢
  have hC : H2.objs.size = s₂.heap.objs.size + 1 := by rw [← hH2, Heap.size_push]
  have below : ∀ b, b < s₂.heap.objs.size → b ≠ H2.objs.size := fun b hb => by rw [hC]; exact Nat.ne_of_lt (Nat.lt_succ_of_lt hb)
  have old : ∀ b o, s₂.heap.get? b = some o → h₁.get? b = some o := fun b o e => hsb₁.extBut b o (below b (Heap.lt_size e)) (Heap.get?_push_of_some _ (hH2 ▸ Heap.get?_push_of_some _ e))
  have hDC : s₂.heap.objs.size ≠ H2.objs.size := by rw [hC]; exact Nat.ne_of_lt (Nat.lt_succ_self _)
  have hacc : h₁.get? s₂.heap.objs.size = some (listOf ([] : List Value).toArray 0) := hsb₁.extBut _ _ hDC (Heap.get?_push_of_some _ (hH2 ▸ Heap.get?_push_size _ rfl))
  have fresh : ∀ a, s₂.heap.objs.size ≤ a → (s₂.heap.hide I).get? a = none := fun a ha => by
    cases e : (s₂.heap.hide I).get? a with
    | none => rfl
    | some o' => exact absurd (Heap.lt_size (Heap.of_hide e)) (Nat.not_lt.mpr ha)
  have F : Loc (s₂.heap.hide I) H2.objs.size h₁ _ := ⟨hns₁, fun b o e => old b o (Heap.of_hide e), fresh _ (by rw [hC]; exact Nat.le_succ _)⟩
  have hIlt := Heap.lt_size hoI
  have hDI : s₂.heap.objs.size ≠ I := Nat.ne_of_gt hIlt
  have N : News (s₂.heap.hide I) H2.objs.size h₁ [(I, oI), (s₂.heap.objs.size, listOf ([] : List Value).toArray 0)] := by
    intro p hp
    rcases List.mem_cons.mp hp with rfl | hp
    · exact ⟨old _ _ hoI, below _ hIlt, Heap.hide_self _ _⟩
    · rcases List.mem_cons.mp hp with rfl | hp
      · exact ⟨hacc, hDC, fresh _ (Nat.le_refl _)⟩
      · cases hp
  have loop : ∀ s₃ : Shared, s₃ = { s₂ with heap := h₁, toks := s₂.toks + ([] : List (Str × Value)).length } →
      codeAny (model P0 w) A (.compLoop (.ListComp elt [⟨target, iter, ifs, 0⟩] scope pos) 0 (.ref I) (.ref s₂.heap.objs.size) (compEnvC scope cl H2.objs.size env))
        (compPost (model P0 w) A E use Q (.ref s₂.heap.objs.size) H2.objs.size) s₃ := by
    rintro s₃ rfl
    refine comp_last rfl rfl W hK (fun i B' _ acc => J i B' acc) F N hDI (fun p hp => noMem hp) (fun p hp => noMem hp) hO hJ0 (fun i B' _ acc' => hsz i B' acc') (fun i v B' h tk m' acc' k o' hi hv hg F' N' hJ' => ?_) (fun B' h tk m' acc' k hg F' N' hJ' => hR B' _ h tk m' _ acc' k hg F' N' hJ') (hgo _)
    exact step i v _ _ B' h tk m' acc' k o' hi hv hg F' N' hJ'
  exact codeAny_compStart_list (loop _ rfl) (W.self 0 _ oI _ _ (old _ _ hoI) hO (loop _ rfl))

theorem comp1_eval {elt target iter : Expr} {ifs : List Expr} {scope : Scope} {pos : Pos} {Q : Value → Shared → Prop} (h : wpAny (model P0 w) A (comprehension (.ListComp elt [⟨target, iter, ifs, 0⟩] scope pos) scope env (firstIterPos [⟨target, iter, ifs, 0⟩] pos) (newList []) false (eval iter env)) Q E s) :
    wpAny (model P0 w) A (eval (.ListComp elt [⟨target, iter, ifs, 0⟩] scope pos) env) Q E s := h
end
end Mine

namespace Mine
inductive CompE (w : World) (A : Around) (E : Value → Shared → Prop) (env : Env) (elt target iter : Expr) (ifs : List Expr) (rest : List Comprehension) (scope : Scope) (pos : Pos) (cl : List (Str × Addr)) (use : Option (Value → Sem Unit)) (Q : Value → Shared → Prop) (it : Value) (s₂ : Shared) : Prop
  | mk : ∀ (I : Addr) (n : Nat) (P : Nat → Value → Prop) (Ob : Nat → Obj → Prop) (K : Heap → Prop) (oI : Obj), it = .ref I → Iter w A K I n P Ob → s₂.heap.get? I = some oI → Ob 0 oI →
      (∀ C D h tk m, D ≠ I → Loc (s₂.heap.hide I) C h m → News (s₂.heap.hide I) C h [(I, oI), (D, listOf ([] : List Value).toArray 0)] →
        codeAny (model P0 w) A (.compLoop (.ListComp elt (⟨target, iter, ifs, 0⟩ :: rest) scope pos) 0 (.ref I) (.ref D) (compEnvC scope cl C env)) (compPost (model P0 w) A E use Q (.ref D) C) { s₂ with heap := h, toks := tk }) → CompE w A E env elt target iter ifs rest scope pos cl use Q it s₂

section
variable {w : World} {A : Around} {E : Value → Shared → Prop} {s : Shared} {env : Env} {C D I : Addr} {B : Heap} {m : Str → Option Value} {led : List (Addr × Obj)}

theorem compStart_at {elt target iter : Expr} {ifs : List Expr} {gens : List Comprehension} {d : Nat} {scope : Scope} {pos : Pos} {it acc : Value} {R : Result → Shared → Prop}
    (hg : gens[d]? = some ⟨target, iter, ifs, 0⟩)
    (h0 : codeAny (model P0 w) A (.compLoop (.ListComp elt gens scope pos) d it acc env) R s)
    (h : wpAny (model P0 w) A (pyIter it) (fun it' s' => codeAny (model P0 w) A (.compLoop (.ListComp elt gens scope pos) d it' acc env) R s') NoE s) :
    codeAny (model P0 w) A (.compStart (.ListComp elt gens scope pos) d it acc env) R s := by
  refine codeAny_of_tree ?_
  show wpAny _ _ ((compStart (.ListComp elt gens scope pos) d it acc env).onRaise (fun x => do noteFrame x env; standAt theWindowsPlace)) _ _ s
  refine wpAny_notedAt ?_
  have hc : clausesOf (.ListComp elt gens scope pos) = gens := rfl
  unfold compStart
  rw [hc, hg]
  show wpAny _ _ (ask >>= _) _ _ s
  refine wpAny_bind (wpAny_askSetting (wpAny_ite ?_))
  split
  · exact wpAny_bind (wpAny_pure (wpAny_pure (And.intro rfl h0)))
  · exact wpAny_bind (wpAny_rule (wpAny_bind (wpAny_standAt (wpAny_bind (wpAny_mono h (fun it' s' h' => wpAny_pure (And.intro rfl h')) fun _ _ x => x.elim)))))

theorem comp_more {elt target iter : Expr} {ifs : List Expr} {gens : List Comprehension} {g' : Comprehension} {d : Nat} {scope : Scope} {pos : Pos} {n : Nat} {K : Heap → Prop} {P : Nat → Value → Prop} {Ob : Nat → Obj → Prop} {R : Result → Shared → Prop} {oI : Obj} {acc : List Value} {kD : Nat}
    (hg : gens[d]? = some ⟨target, iter, ifs, 0⟩) (hn : gens[d + 1]? = some g') (ha : g'.is_async = 0) (hfold : ∀ x, foldedSetIterable g'.iter env x = pure x)
    (W : Iter w A K I n P Ob) (hK : ∀ h, Grown B h → K h) (J : Nat → Heap → (Str → Option Value) → List Value → Prop)
    (F : Loc B C s.heap m) (N : News B C s.heap ((I, oI) :: (D, listOf acc.toArray kD) :: led)) (hDI : D ≠ I) (hndI : ∀ p ∈ led, p.1 ≠ I) (h0 : Ob 0 oI) (hJ : J 0 B m acc)
    (step : ∀ i v B' h tk m' acc' k o', i < n → P i v → Grown B B' → Loc B' C h m' → News B' C h ((I, o') :: (D, listOf acc'.toArray k) :: led) → J i B' m' acc' →
      wpAny (model P0 w) A (assign target env v) (fun _ s₂ => wpAny (model P0 w) A (testsOf ifs env) (fun ok s₃ => if ok = true then
          wpAny (model P0 w) A (eval g'.iter env) (fun xv s₄ => wpAny (model P0 w) A (pyIter xv) (fun it s₅ => codeAny (model P0 w) A (.compStart (.ListComp elt gens scope pos) (d + 1) it (.ref D) env) (fun r s₆ =>
            (∃ f, r = .ok f) ∧ NextD s B' C I D o' led (J (i + 1)) s₆) s₅) NoE s₄) NoE s₃
        else NextD s B' C I D o' led (J (i + 1)) s₃) NoE s₂) NoE { s with heap := h, toks := tk })
    (hR : ∀ B' h tk m' acc' k, Grown B B' → Loc B' C h m' → News B' C h ((D, listOf acc'.toArray k) :: led) → J n B' m' acc' → R (.ok .next) { s with heap := h, toks := tk })
    (hgo : ∀ v, letOwnedTupleGo target (.ref I) v = pure () := by intro _; rfl) :
    codeAny (model P0 w) A (.compLoop (.ListComp elt gens scope pos) d (.ref I) (.ref D) env) R s := by
  refine codeAny_loop rfl (fun j s' => CompI s B C I D led Ob J n j s') ?_ (n + 1)
    ⟨0, B, s.heap, s.toks, m, acc, kD, oI, rfl, fun _ _ e => e, F, N, h0, hJ, Nat.zero_le _, rfl⟩
  rintro j s' ⟨i, B', h, tk, m', acc', k, o', rfl, hgr, F', N', hO, hJ', hi, rfl⟩
  show wpAny _ A ((compTurn (.ListComp elt gens scope pos) d (.ref I) (.ref D) env).onRaise (fun x => do noteFrame x env; theTreesLotGoes x)) _ _ _
  refine wpAny_noted ?_
  rw [compTurn_more hg hn ha]
  have hI := N' _ (.head _)
  have hndI' : ∀ p ∈ (D, listOf acc'.toArray k) :: led, p.1 ≠ I := fun p hp => by
    rcases List.mem_cons.mp hp with rfl | q
    · exact hDI
    · exact hndI p q
  rcases Nat.lt_or_ge i n with hlt | hge
  · refine wpAny_bind (wpAny_standAt (wpAny_bind (W.item i _ o' _ _ hlt (hK _ (hgr.trans F'.keep)) hI.1 hO fun v h₁ tk₁ o₁ hv hs₁ ho₁ hO₁ => ?_)))
    have F₁ := F'.change hs₁ hI.2.1 hI.2.2
    have N₁ : News B' C h₁ ((I, o₁) :: (D, listOf acc'.toArray k) :: led) := News.turn (pre := []) N' hs₁ ho₁ (fun p hp => noMem hp) hndI'
    refine wpAny_bind (wpAny_of_eq (hgo v) ?_)
    refine wpAny_bind (wpAny_mono (step i v B' h₁ tk₁ m' acc' k o₁ hlt hv hgr F₁ N₁ hJ') (fun _ s₂ h₂ => wpAny_bind (wpAny_mono h₂ (fun ok s₃ h₃ => ?_) fun _ _ q => q.elim)) fun _ _ q => q.elim)
    cases ok with
    | false =>
      simp only [Bool.false_eq_true, if_false] at h₃ ⊢
      obtain ⟨B'', h', tk', m'', acc'', k'', rfl, hg', F'', N'', hJ''⟩ := h₃
      exact wpAny_pure ⟨rfl, n + 1 - (i + 1), Nat.sub_lt_sub_left (Nat.lt_succ_of_lt hlt) (Nat.lt_succ_self _), i + 1, B'', h', tk', m'', acc'', k'', o₁, rfl, hgr.trans hg', F'', N'', hO₁, hJ'', hlt, rfl⟩
    | true =>
      simp only [if_true] at h₃ ⊢
      refine wpAny_bind (wpAny_mono h₃ (fun xv s₄ h₄ => wpAny_bind (wpAny_standAt (wpAny_bind (wpAny_of_eq (hfold xv) (wpAny_bind (wpAny_holding (wpAny_mono h₄ (fun it s₅ h₅ => wpAny_bind (wpAny_runOwn (codeAny_mono h₅ fun r s₆ h₆ => ?_))) fun _ _ q => q.elim))))))) fun _ _ q => q.elim)
      obtain ⟨⟨f, rfl⟩, B'', h', tk', m'', acc'', k'', rfl, hg', F'', N'', hJ''⟩ := h₆
      exact wpAny_pure ⟨rfl, n + 1 - (i + 1), Nat.sub_lt_sub_left (Nat.lt_succ_of_lt hlt) (Nat.lt_succ_self _), i + 1, B'', h', tk', m'', acc'', k'', o₁, rfl, hgr.trans hg', F'', N'', hO₁, hJ'', hlt, rfl⟩
  · have e : i = n := Nat.le_antisymm hi hge
    subst e
    refine wpAny_bind (wpAny_standAt (wpAny_bind (W.done _ o' _ _ (hK _ (hgr.trans F'.keep)) hI.1 hO fun h₁ he₁ => wpAny_pure ?_)))
    exact hR B' h₁ tk m' acc' k hgr (F'.but he₁ hI.2.1 hI.2.2) (News.but' N'.tail' he₁ hndI') hJ'

theorem comp_enter {elt target iter : Expr} {ifs : List Expr} {rest : List Comprehension} {scope : Scope} {cl : List (Str × Addr)} {pos : Pos} {use : Option (Value → Sem Unit)} {ep : Pos} {Q : Value → Shared → Prop}
    (hclos : closureFor scope env = pure cl)
    (h : wpAny (model P0 w) A (eval iter env) (fun xv s₁ => wpAny (model P0 w) A (pyIter xv) (fun it s₂ => CompE w A E env elt target iter ifs rest scope pos cl use Q it s₂) E s₁) E s)
    (hs : ∀ x, foldedSetIterable iter env x = pure x := by intro _; rfl)
    (hcell : ∀ y ∈ scope.names, y.2 ≠ .cell := by decide) (hkind : scope.kind = .function := by rfl) (hnames : ∀ y ∈ scope.names, y.2 = .local → scope.names.lookup y.1 = some .local := by decide) :
    wpAny (model P0 w) A (comprehension (.ListComp elt (⟨target, iter, ifs, 0⟩ :: rest) scope pos) scope env ep (newList []) false (eval iter env) use) Q E s := by
  refine wpAny_comprehension_free rfl hs hclos hkind hnames (wpAny_mono h (fun xv s₁ h₁ => wpAny_mono h₁ (fun it s₂ h₂ => ?_) fun _ _ e => e) fun _ _ e => e)
  obtain ⟨I, n, P, Ob, K, oI, rfl, W, hoI, hO, step⟩ := h₂
  refine wpAny_newObj_type (wpAny_newFunctionEnv hcell (by intro y hy; simp at hy) (fun h₁ hns₁ hsb₁ => ?_) hkind)
  dsimp only at hns₁ hsb₁ ⊢
  generalize hH2 : s₂.heap.push { cls := .type "list", dict := none, data := .seq ([] : List Value).toArray } = H2 at hns₁ hsb₁ ⊢
  have hC : H2.objs.size = s₂.heap.objs.size + 1 := by rw [← hH2, Heap.size_push]
  have below : ∀ b, b < s₂.heap.objs.size → b ≠ H2.objs.size := fun b hb => by rw [hC]; exact Nat.ne_of_lt (Nat.lt_succ_of_lt hb)
  have old : ∀ b o, s₂.heap.get? b = some o → h₁.get? b = some o := fun b o e => hsb₁.extBut b o (below b (Heap.lt_size e)) (Heap.get?_push_of_some _ (hH2 ▸ Heap.get?_push_of_some _ e))
  have hDC : s₂.heap.objs.size ≠ H2.objs.size := by rw [hC]; exact Nat.ne_of_lt (Nat.lt_succ_self _)
  have hacc : h₁.get? s₂.heap.objs.size = some (listOf ([] : List Value).toArray 0) := hsb₁.extBut _ _ hDC (Heap.get?_push_of_some _ (hH2 ▸ Heap.get?_push_size _ rfl))
  have fresh : ∀ a, s₂.heap.objs.size ≤ a → (s₂.heap.hide I).get? a = none := fun a ha => by
    cases e : (s₂.heap.hide I).get? a with
    | none => rfl
    | some o' => exact absurd (Heap.lt_size (Heap.of_hide e)) (Nat.not_lt.mpr ha)
  have F : Loc (s₂.heap.hide I) H2.objs.size h₁ _ := ⟨hns₁, fun b o e => old b o (Heap.of_hide e), fresh _ (by rw [hC]; exact Nat.le_succ _)⟩
  have hIlt := Heap.lt_size hoI
  have hDI : s₂.heap.objs.size ≠ I := Nat.ne_of_gt hIlt
  have N : News (s₂.heap.hide I) H2.objs.size h₁ [(I, oI), (s₂.heap.objs.size, listOf ([] : List Value).toArray 0)] := by
    intro p hp
    rcases List.mem_cons.mp hp with rfl | hp
    · exact ⟨old _ _ hoI, below _ hIlt, Heap.hide_self _ _⟩
    · rcases List.mem_cons.mp hp with rfl | hp
      · exact ⟨hacc, hDC, fresh _ (Nat.le_refl _)⟩
      · cases hp
  have loop : ∀ s₃ : Shared, s₃ = { s₂ with heap := h₁, toks := s₂.toks + ([] : List (Str × Value)).length } →
      codeAny (model P0 w) A (.compLoop (.ListComp elt (⟨target, iter, ifs, 0⟩ :: rest) scope pos) 0 (.ref I) (.ref s₂.heap.objs.size) (compEnvC scope cl H2.objs.size env))
        (compPost (model P0 w) A E use Q (.ref s₂.heap.objs.size) H2.objs.size) s₃ := by
    rintro s₃ rfl
    exact step _ _ _ _ _ hDI F N
  exact codeAny_compStart_list (loop _ rfl) (W.self 0 _ oI _ _ (old _ _ hoI) hO (loop _ rfl))

theorem comp2_eval {elt target iter : Expr} {ifs : List Expr} {rest : List Comprehension} {scope : Scope} {pos : Pos} {Q : Value → Shared → Prop} (h : wpAny (model P0 w) A (comprehension (.ListComp elt (⟨target, iter, ifs, 0⟩ :: rest) scope pos) scope env (firstIterPos (⟨target, iter, ifs, 0⟩ :: rest) pos) (newList []) false (eval iter env)) Q E s) :
    wpAny (model P0 w) A (eval (.ListComp elt (⟨target, iter, ifs, 0⟩ :: rest) scope pos) env) Q E s := h
end
end Mine

namespace Mine
local macro_rules | `(tactic| walk_at "lk") => `(tactic| first | with_reducible assumption | exact upd_self | (refine (upd_ne (by decide)).trans ?_; walk_at "lk") | exact rfl)
section
variable {w : World} {A : Around} {E : Value → Shared → Prop} {s : Shared} {env : Env}

theorem sub_rev {value : Expr} {pu ps p pos : Pos} {Q : Value → Shared → Prop}
    (h : wpAny (model P0 w) A (eval value env) (fun o s₁ => ∃ l li, o = .ref l ∧ s₁.heap.IsList l (List.toArray li) ∧ li.length < 1000000 ∧
      ∀ h' r tk, Grown s₁.heap h' → s₁.heap.get? r = none → h'.get? r = some (listOf li.reverse.toArray 0) → Q (.ref r) { s₁ with heap := h', toks := tk }) E s) :
    wpAny (model P0 w) A (eval (.Subscript value (.Slice none none (some (.UnaryOp .USub (.Constant (.int 1) 0 pu) ps)) p) pos) env) Q E s := by
  refine sub_any (wpAny_mono h (fun o s₁ h₁ => ?_) fun _ _ e => e)
  obtain ⟨l, li, rfl, hl, hz, hq⟩ := h₁
  refine wpAny_Slice (wpAny_pure (wpAny_pure ?_))
  show wpAny _ _ (eval (.UnaryOp .USub (.Constant (.int 1) 0 pu) ps) env) _ _ s₁
  refine UnaryOp_ (wpAny_Constant_int (PyProof.Rows.neg_int ?_))
  dsimp only
  refine subscriptTail_builtin (hl.push _).typeIs slot_list_getitem.lookup ?_
  refine wpAny_getItem_list_slice (hl.push _) ⟨_, Heap.get?_push_size _ rfl, rfl, rfl⟩ .none .none (.int _ _) (by decide) ?_ (by rw [List.size_toArray]; exact line_ok hz)
  dsimp only
  rw [krv_pick, Heap.size_push]
  refine hq _ _ _ ((Grown.push _ _).trans (Grown.push _ _)) (get_above (Nat.le_succ _)) ?_
  have := Heap.get?_push_size (s₁.heap.push { cls := .type "slice", data := .fields #[.none, .none, .int (-1) (s₁.toks + 1)] }) (o := listOf li.reverse.toArray 0) rfl
  rw [Heap.size_push] at this
  exact this

theorem last_item {value slice : Expr} {l : Addr} {li : List Value} {x : Value} {u : Tok} {Q : Value → Shared → Prop} (hl : s.heap.IsList l (li ++ [x]).toArray) (hz : li.length < 1000000) (h : Q x s)
    (hs : subscripted slice false (.ref l) (.int (-1) u) = operate [.ref l, .int (-1) u] (getItem (.ref l) (.int (-1) u)) := by with_unfolding_all rfl) (hg : ∀ r, letTemporaryGo value (.ref l) r = pure () := by intro _; with_unfolding_all rfl) :
    wpAny (model P0 w) A (subscriptTail value slice (.ref l) (.int (-1) u)) Q E s := by
  refine subscriptTail_builtin hl.typeIs slot_list_getitem.lookup (wpAny_getItem_list_neg hl (by decide) (by rw [List.size_toArray, List.length_append]; simp; omega) (by decide) (x := x) ?_ h) hs hg
  have e : ((-1 : Int) + ((li ++ [x]).toArray.size : Nat)).toNat = li.length := by
    rw [List.size_toArray, List.length_append]; simp; omega
  rw [e]; simp

theorem extend_to {D b : Addr} {li l2 : List Value} {n n2 : Nat} {Q : Value → Shared → Prop} (ho : s.heap.get? D = some (listOf li.toArray n)) (hb : s.heap.get? b = some (listOf l2.toArray n2)) (hz : li.length + l2.length < 1000000)
    (h : ∀ h' n', Heap.SameBut D s.heap h' → h'.get? D = some (listOf (li ++ l2).toArray n') → Q .none { s with heap := h' }) :
    wpAny (model P0 w) A (call (.builtin "list.extend") [.ref D, .ref b]) Q E s := by
  have hz1 : li.toArray.size ≤ sizeLine := by rw [List.size_toArray]; exact line_ok (by omega)
  have hz2 : li.toArray.size + l2.toArray.size ≤ sizeLine := by rw [List.size_toArray, List.size_toArray]; exact line_ok hz
  have q := PySem.IsL.update ho (fun x => x ++ l2.toArray)
  refine call_meets PySem.F.slot_list_extend ⟨_, ho, rfl⟩ PySem.F.entry_list_extend (PySem.F.args_list_extend_2 _ _) (PySem.AutoSeq1.list_extend_list_list_0 D _ n b _ n2 ?_ hz1 (by omega)) ⟨ho, hb, h _ (if (li.toArray ++ l2.toArray).size == li.toArray.size then n else n + 1) (Heap.SameBut.update ..) ?_⟩
  · unfold Builtin.List.listTooLong
    simp only [Bool.and_eq_true, decide_eq_true_eq, not_and]
    intro _; omega
  · rw [q]
    simp

theorem add_lists' {l b : Addr} {li l2 : List Value} {n n2 : Nat} {Q : Value → Shared → Prop} (ho : s.heap.get? l = some (listOf li.toArray n)) (hb : s.heap.get? b = some (listOf l2.toArray n2)) (hz : li.length + l2.length < 1000000)
    (h : ∀ h' r, Grown s.heap h' → s.heap.get? r = none → h'.get? r = some (listOf (li ++ l2).toArray 0) → Q (.ref r) { s with heap := h' }) :
    wpAny (model P0 w) A (binaryOp .Add (.ref l) (.ref b)) Q E s := by
  refine PySem.P.add_list ho hb (h _ _ (Grown.push _ _) (get_size _) ?_) (by rw [List.size_toArray, List.size_toArray]; exact line_ok hz)
  have := Heap.get?_push_size s.heap (o := listOf (li.toArray ++ l2.toArray) 0) rfl
  simpa using this

variable {ad : Nat → Addr} {mg mb : Str → Option Value}
theorem eof_call {z : Int} {t : Tok} {Q : Value → Shared → Prop} (G : Gnd ad mg mb s.heap) (R : Rm A 1) (h : ∀ h' tk, Grown s.heap h' → Q (.bool (z == 0)) { s with heap := h', toks := tk }) :
    wpAny (model P0 w) A (call (.ref (ad 15)) [.int z t] []) Q E s := by
  obtain ⟨_, hf⟩ := G.fnOf 15 "ISEOF" (by decide)
  obtain ⟨te, he⟩ := G.endm
  refine enter (binds := [("x", .int z t)]) hf G.nolimit R.d (fun _ _ _ => BindsTo.of_eq rfl) fun h₁ cd hns hk => ?_
  have F := Loc.start hns hk
  exact wpAny_execs_cons (wpAny_Return_some (wpAny_Compare1 (ldv F rfl (ldg F G he (PyProof.Rows.eq_int (h _ _ F.keep))))))
theorem nont_call {z : Int} {t : Tok} {Q : Value → Shared → Prop} (G : Gnd ad mg mb s.heap) (R : Rm A 1) (h : ∀ h' tk, Grown s.heap h' → Q (.bool (decide (256 ≤ z))) { s with heap := h', toks := tk }) :
    wpAny (model P0 w) A (call (.ref (ad 14)) [.int z t] []) Q E s := by
  obtain ⟨_, hf⟩ := G.fnOf 14 "ISNONTERMINAL" (by decide)
  obtain ⟨te, he⟩ := G.ntoff
  refine enter (binds := [("x", .int z t)]) hf G.nolimit R.d (fun _ _ _ => BindsTo.of_eq rfl) fun h₁ cd hns hk => ?_
  have F := Loc.start hns hk
  exact wpAny_execs_cons (wpAny_Return_some (wpAny_Compare1 (ldv F rfl (ldg F G he (PyProof.Rows.ge_int (h _ _ F.keep))))))
end
end Mine

namespace Mine
local macro_rules | `(tactic| walk_at "lk") => `(tactic| first | with_reducible assumption | exact upd_self | (refine (upd_ne (by decide)).trans ?_; walk_at "lk") | exact rfl)

theorem boot_ord : bootBuiltins "ord" = some (.builtin "ord") := by decide +kernel
theorem boot_chr : bootBuiltins "chr" = some (.builtin "chr") := by decide +kernel

theorem S_app (x y : List Nat) : S x ++ S y = S (x ++ y) := by
  show (⟨x.toArray ++ y.toArray⟩ : Str) = _
  simp
noncomputable def letters (ws : List (List Nat)) (y : Nat) : List Nat := if 256 ≤ y then ws.getD (y - 256) [] else [y]
noncomputable def expand (ws : List (List Nat)) (todo : List Nat) : List Nat := todo.flatMap (letters ws)
noncomputable def cost (ws : List (List Nat)) : List Nat → Nat
  | [] => 0
  | y :: r => (if 256 ≤ y then 2 + (ws.getD (y - 256) []).length else 1) + cost ws r
theorem cost_append (ws : List (List Nat)) : ∀ a b, cost ws (a ++ b) = cost ws a + cost ws b
  | [], b => by simp [cost]
  | y :: r, b => by simp [cost, cost_append ws r b]; omega
theorem cost_low (ws : List (List Nat)) : ∀ a, (∀ y ∈ a, y < 256) → cost ws a = a.length
  | [], _ => rfl
  | y :: r, h => by
    have := h y (.head _)
    rw [cost, if_neg (by omega), cost_low ws r (fun z hz => h z (.tail _ hz)), List.length_cons]; omega
theorem length_le_cost (ws : List (List Nat)) : ∀ a, a.length ≤ cost ws a
  | [] => Nat.le_refl _
  | y :: r => by
    have := length_le_cost ws r
    rw [cost, List.length_cons]; split <;> omega
theorem expand_low (ws : List (List Nat)) : ∀ a, (∀ y ∈ a, y < 256) → expand ws a = a
  | [], _ => rfl
  | y :: r, h => by
    have h1 := h y (.head _)
    have h2 := expand_low ws r (fun z hz => h z (.tail _ hz))
    unfold expand at h2 ⊢
    rw [List.flatMap_cons, h2, letters, if_neg (by omega)]; rfl
theorem expand_cons (ws : List (List Nat)) (y : Nat) (r : List Nat) : expand ws (y :: r) = letters ws y ++ expand ws r := rfl
theorem expand_append (ws : List (List Nat)) (a b : List Nat) : expand ws (a ++ b) = expand ws a ++ expand ws b := List.flatMap_append
theorem expand_length (ws : List (List Nat)) : ∀ a, (expand ws a).length ≤ cost ws a
  | [] => Nat.le_refl _
  | y :: r => by
    have := expand_length ws r
    rw [expand_cons, cost, List.length_append, letters]
    split <;> simp <;> omega

noncomputable def Pile (qs : List IT) (todo : List Nat) : Prop := qs.map (·.1) = 0 :: todo.reverse.map Int.ofNat

theorem Pile.nil {qs : List IT} (h : Pile qs []) : ∃ t, qs = [(0, t)] := by
  unfold Pile at h
  match qs, h with
  | [(z, t)], h => simp at h; subst h; exact ⟨t, rfl⟩
  | [], h => simp at h
  | _ :: _ :: _, h => simp at h
theorem Pile.cons {qs : List IT} {y : Nat} {r : List Nat} (h : Pile qs (y :: r)) : ∃ q t, qs = q ++ [((y : Int), t)] ∧ Pile q r := by
  unfold Pile at h
  rw [List.reverse_cons, List.map_append, ← List.cons_append] at h
  obtain ⟨a, b, rfl, h1, h2⟩ := List.map_eq_append_iff.mp h
  match b, h2 with
  | [(z, t)], h2 =>
    simp at h2
    exact ⟨a, t, by rw [h2], h1⟩
  | [], h2 => simp at h2
  | _ :: _ :: _, h2 => simp at h2
theorem Pile.add {qs us : List IT} {r x : List Nat} (h : Pile qs r) (hu : us.map (·.1) = x.reverse.map Int.ofNat) : Pile (qs ++ us) (x ++ r) := by
  unfold Pile at h ⊢
  rw [List.map_append, h, hu]; simp

inductive IntsTake (x : List Nat) (i : Nat) (acc : List Value) : Prop
  | mk : ∀ us : List IT, acc = us.map iv → us.map (·.1) = (x.take i).map Int.ofNat → IntsTake x i acc
inductive SpW (s : Shared) (r₄ l : Addr) (ps : List WT) (row : List Nat) (n : Nat) (s' : Shared) : Prop
  | mk : ∀ h' tk m' qs k todo txt t, s' = { s with heap := h', toks := tk } → Loc s.heap s.heap.objs.size h' m' → News s.heap s.heap.objs.size h' [(r₄, listOf (List.map iv qs).toArray k)] → m' "code" = some (.ref l) → m' "pile" = some (.ref r₄) → m' "text" = some (.str (S txt) t) → Pile qs todo → txt ++ expand (ps.map (·.1)) todo = expand (ps.map (·.1)) row → (∀ y ∈ todo, 0 < y ∧ (y < 256 ∨ y - 256 < ps.length)) → n = cost (ps.map (·.1)) todo → n < 100000 → SpW s r₄ l ps row n s'

set_option maxHeartbeats 2000000 in
theorem spelled_call {w : World} {A : Around} {E : Value → Shared → Prop} {s : Shared} {l lr : Addr} {nr : Nat} {ad : Nat → Addr} {mg mb : Str → Option Value} {ps : List WT} {rs : List IT} {row : List Nat} {Q : Value → Shared → Prop}
    (G : Gnd ad mg mb s.heap) (R : Rm A 3) (hl : s.heap.IsList l (ps.map sv).toArray) (hr : s.heap.IsList lr (rs.map iv).toArray) (hrow : rs.map (·.1) = row.map Int.ofNat)
    (hlet : ∀ p ∈ ps, ∀ c ∈ p.1, 0 < c ∧ c < 256) (hps : ps.length < 1000) (hgood : ∀ y ∈ row, 256 ≤ y ∧ y - 256 < ps.length) (hcost : cost (ps.map (·.1)) row < 100000)
    (h : ∀ h' tk t, Grown s.heap h' → Q (.str (S (expand (ps.map (·.1)) row)) t) { s with heap := h', toks := tk }) :
    wpAny (model P0 w) A (call (.ref (ad 23)) [.ref l, .ref lr] []) Q E s := by
  obtain ⟨_, hf⟩ := G.fnOf 23 "_law_spelled" (by decide)
  refine enter (binds := [("code", .ref l), ("row", .ref lr)]) hf G.nolimit R.d (fun _ _ _ => BindsTo.of_eq rfl) fun h₁ cd hns hk => ?_
  replace R := R.deep (envOf "_law_spelled" (sco 23) s.heap.objs.size (ad 23) cd)
  have F := Loc.start hns hk
  have hlen : rs.length = row.length := by have := congrArg List.length hrow; simpa using this
  have hrl : row.length < 100000 := Nat.lt_of_le_of_lt (length_le_cost _ _) hcost
  obtain ⟨eE, _⟩ := G.fnOf 15 "ISEOF" (by decide)
  obtain ⟨eN, _⟩ := G.fnOf 14 "ISNONTERMINAL" (by decide)
  refine wpAny_execs_cons (asg2 R.handled (spl2 (wpAny_BinOp (list_disp (spl1 (wpAny_Constant_int ⟨by simp, fun h₂ r₂ k₂ n₂ o₂ => ?_⟩))))))
  have F₂ := F.grow k₂
  have N₂ := News.join F (News.nil (L := s.heap.objs.size)) k₂ n₂ o₂
  refine sub_rev (ldv F₂ rfl ⟨lr, rs.map iv, rfl, (F₂.lst hr), by simp; omega, fun h₃ r₃ tk₃ k₃ n₃ o₃ => ?_⟩)
  have F₃ := F₂.grow k₃
  have N₃ := News.join F₂ N₂ k₃ n₃ o₃
  refine add_lists' (N₃.get (.tail _ (.head _))) (N₃.get (.head _)) (by simp; omega) fun h₄ r₄ k₄ n₄ o₄ => wpAny_Constant_str ?_
  have F₄ := F₃.grow k₄
  obtain ⟨t0, N₄⟩ : ∃ t0, News s.heap s.heap.objs.size h₄ [(r₄, listOf (List.map iv ((0, t0) :: rs.reverse)).toArray 0)] := ⟨_, by
    rw [List.map_cons, List.map_reverse]
    exact News.join F₃ (News.nil (L := s.heap.objs.size)) k₄ n₄ o₄⟩
  refine ⟨_, _, rfl, fun h₅ k₅ => ?_⟩
  have F₅ := F₄.grow k₅
  have N₅ := News.grow' N₄ k₅
  refine stv F₅ N₅ fun h₆ _ F₆ N₆ => stv F₆ N₆ fun h₇ tk₇ F₇ N₇ => wpAny_execs_cons ?_
  dsimp only at F₇ N₇ ⊢
  have hQ : ∀ x h' tk t, x = expand (ps.map (·.1)) row → Grown s.heap h' → Q (.str (S x) t) { s with heap := h', toks := tk } := fun x h' tk t e k => e ▸ h h' tk t k
  refine while_gen (fun n s' => SpW s r₄ l ps row n s')
    (n := cost (ps.map (·.1)) row) ⟨_, _, _, (0, t0) :: rs.reverse, _, row, [], _, rfl, F₇, N₇, by walk_at "lk", by walk_at "lk", by walk_at "lk", (by unfold Pile; simp [hrow]), rfl, fun y hy => ⟨by have := (hgood y hy).1; omega, .inr (hgood y hy).2⟩, rfl, hcost⟩ ?_
  rintro n s' ⟨h', tk, m', qs, k, todo, txt, t, rfl, F', N', mc, mp, mt, hpile, htxt, htodo, rfl, hn⟩
  have hqlen : qs.length = 1 + todo.length := by have := congrArg List.length hpile; simp at this; omega
  have htl : todo.length ≤ cost (ps.map (·.1)) todo := length_le_cost _ _
  have htx : txt.length ≤ cost (ps.map (·.1)) row := by
    have h1 := congrArg List.length htxt
    rw [List.length_append] at h1
    have := expand_length (ps.map (·.1)) row
    omega
  refine isTrue_not' (isTrue_val (Call_Name1 (ldg F' G eE (callFn (G.fnOf 15 "ISEOF" (by decide)).2 (spliced_cons (Subscript_ (ldv F' mp (UnaryOp_ (wpAny_Constant_int (PyProof.Rows.neg_int ?_))))))))) rfl)
  cases todo with
  | nil =>
    obtain ⟨t0, rfl⟩ := hpile.nil
    refine last_item (li := []) ⟨_, N'.get (.head _), rfl, _, rfl⟩ (by simp) (spliced_nil (wpAny_evalAll_nil ⟨F'.keep, ?_⟩))
    refine eof_call (G.keeps F'.keep) R.low fun h₈ tk₈ k₈ => wpAny_truthy_bool ?_
    have F₈ := F'.grow k₈
    rw [if_neg (by simp)]
    refine wpAny_execs_cons (wpAny_Return_some (ldv F₈ mt ?_))
    exact hQ _ _ _ _ (by simpa [expand] using htxt) F₈.keep
  | cons y todo =>
    obtain ⟨q, ty, rfl, hp'⟩ := hpile.cons
    have eSplit : (List.map iv (q ++ [((y : Int), ty)])) = q.map iv ++ [iv ((y : Int), ty)] := by simp
    have oD := N'.get (.head _)
    rw [eSplit] at oD
    obtain ⟨hy0, hyb⟩ := htodo y (.head _)
    have hql : q.length < 100000 := by simp only [List.length_append, List.length_cons, List.length_nil] at hqlen htl; omega
    refine last_item (li := q.map iv) ⟨_, oD, rfl, _, rfl⟩ (by simp; omega) (spliced_nil (wpAny_evalAll_nil ⟨F'.keep, ?_⟩))
    refine eof_call (G.keeps F'.keep) R.low fun h₈ tk₈ k₈ => wpAny_truthy_bool ?_
    have F₈ := F'.grow k₈
    have N₈ := News.grow' N' k₈
    have oD₈ := N₈.get (.head _)
    rw [eSplit] at oD₈
    rw [if_pos (by simp; omega)]
    refine wpAny_execs_cons (wpAny_Assign_Name (MethodCall_ (ldv F₈ mp (lmeth (li := q.map iv ++ [iv ((y : Int), ty)]) oD₈ PySem.F.slot_list_pop PySem.F.type_list_pop ?_))))
    refine Calls.callWith_builtin rfl (PyProof.Rows.evalArgs_none ?_)
    refine pop_of oD₈ (by simp; omega) fun h₉ s₉ o₉ => ?_
    have F₉ := F₈.change s₉ (N₈ _ (.head _)).2.1 (N₈ _ (.head _)).2.2
    have N₉ : News s.heap s.heap.objs.size h₉ [(r₄, listOf (List.map iv q).toArray (k + 1))] := by
      intro p hp
      simp at hp; subst hp
      exact ⟨o₉, (N₈ _ (.head _)).2⟩
    refine stv F₉ N₉ fun h₁₀ tk₁₀ F₁₀ N₁₀ => ?_
    dsimp only at F₁₀ N₁₀ ⊢
    refine wpAny_execs_cons (wpAny_If (isTrue_val (Call_Name1 (ldg F₁₀ G eN (callFn (G.fnOf 14 "ISNONTERMINAL" (by decide)).2 (spliced_cons (ldv F₁₀ (by walk_at "lk") (spliced_nil (wpAny_evalAll_nil ⟨F₁₀.keep, ?_⟩))))))) rfl))
    refine nont_call (G.keeps F₁₀.keep) R.low fun h₁₁ tk₁₁ k₁₁ => wpAny_truthy_bool ?_
    have F₁₁ := F₁₀.grow k₁₁
    have N₁₁ := News.grow' N₁₀ k₁₁
    by_cases hy : 256 ≤ y
    · rw [if_pos (by simp; omega)]
      have hyl : y - 256 < ps.length := by omega
      have hsub : ((y : Int) - 256) = ((y - 256 : Nat) : Int) := by omega
      have hyw : (ps.map (·.1)).getD (y - 256) [] = ps[y - 256].1 := by simp [List.getD_eq_getElem?_getD, hyl]
      have hcy : cost (ps.map (·.1)) (y :: todo) = 2 + ps[y - 256].1.length + cost (ps.map (·.1)) todo := by rw [cost, if_pos hy, hyw]
      refine wpAny_execs_cons (wpAny_Expr_any (MethodCall_ (ldv F₁₁ (by walk_at "lk") (lmeth (N₁₁.get (.head _)) PySem.F.slot_list_extend PySem.F.type_list_extend ?_))))
      refine Calls.callWith_builtin rfl (Calls.evalArgs_plain (spliced_cons (sub_rev (comp1_eval (comp1 (cl := []) rfl ?_)))))
      refine Subscript_ (ldv F₁₁ (by walk_at "lk") (wpAny_BinOp (ldv F₁₁ (by walk_at "lk") (wpAny_Constant_int (PyProof.Rows.sub_int ?_)))))
      rw [hsub]
      refine item_list (x := sv ps[y - 256]) (F₁₁.lst hl) (by omega) (by omega) (by rw [Int.toNat_natCast]; simp [hyl]) ?_
      refine iter_str fun h₁₂ I o k₁₂ n₁₂ o₁₂ hO => ?_
      refine ⟨I, _, _, _, _, o, fun i _ acc => IntsTake ps[y - 256].1 i acc, rfl, Iter.str R.handled I _ _, fun _ _ => trivial, o₁₂, hO, ⟨[], rfl, by simp⟩, ?_, ?_, ?_⟩
      · rintro i _ acc ⟨us, rfl, hu⟩
        have := congrArg List.length hu
        simp at this ⊢; omega
      · rintro i v C D B' h tk m' acc kk o' hi ⟨c, u, hc, rfl⟩ hg F' N' ⟨us, rfl, hu⟩
        refine wpAny_assign_Name (stE F' N' fun h₁₃ tk₁₃ F₁₃ N₁₃ => wpAny_tests_nil ?_)
        rw [if_pos rfl]
        have gB : Grown s.heap B' := fun b o e => hg b o (by
          rw [Heap.hide_ne _ (fun q => by rw [q] at e; rw [F₁₁.keep _ _ e] at n₁₂; cases n₁₂)]
          exact k₁₂ b o (F₁₁.keep b o e))
        refine Call_Name1 (ldbE F₁₃ (G.keeps gB) boot_ord (callWith_builtin1 (ldE F₁₃ upd_self (PySem.P.ord_of_char ?_))))
        refine ⟨B', h₁₃, _, _, rfl, fun _ _ e => e, F₁₃, N₁₃, ⟨us ++ [((c : Int), tk₁₃)], by simp, ?_⟩⟩
        have hc' : ps[y - 256].1[i]? = some c := by simpa using hc
        rw [List.map_append, hu, List.take_add_one, hc']; simp
      · rintro B' C h tk m' D acc kk hg F' N' ⟨us, rfl, hu⟩
        refine ⟨m', F'.ns, fun h₁₄ s₁₄ => ?_⟩
        have hu' : us.map (·.1) = ps[y - 256].1.map Int.ofNat := by
          rw [hu, List.take_of_length_le (by simp)]
        have hD := N' _ (.head _)
        have oD₁₄ : h₁₄.get? D = some (listOf (List.map iv us).toArray kk) := (s₁₄.2 D hD.2.1).trans hD.1
        have hul : us.length = ps[y - 256].1.length := by have := congrArg List.length hu'; simpa using this
        have k₁₄ : Grown h₁₁ h₁₄ := fun b o e => by
          have hb : b ≠ I := fun q => by rw [q] at e; rw [e] at n₁₂; cases n₁₂
          have e1 : B'.get? b = some o := hg b o (by rw [Heap.hide_ne _ hb]; exact k₁₂ b o e)
          have hC : b ≠ C := fun q => by rw [q, F'.free] at e1; cases e1
          exact (s₁₄.2 b hC).trans (F'.keep b o e1)
        refine ⟨D, us.map iv, rfl, ⟨_, oD₁₄, rfl, _, rfl⟩, by simp; omega, fun h₁₅ r₁₅ tk₁₅ k₁₅ n₁₅ o₁₅ => ?_⟩
        have F₁₅ := F₁₁.grow (k₁₄.trans k₁₅)
        have N₁₅ := News.grow' N₁₁ (k₁₄.trans k₁₅)
        refine spliced_nil (extend_to (N₁₅.get (.head _)) o₁₅ (by simp; omega) fun h₁₆ n₁₆ s₁₆ o₁₆ => wpAny_execs_nil (wpAny_execs_nil ?_))
        have F₁₆ := F₁₅.change s₁₆ (N₁₅ _ (.head _)).2.1 (N₁₅ _ (.head _)).2.2
        refine ⟨cost (ps.map (·.1)) (ps[y - 256].1 ++ todo), ?_, h₁₆, _, _, q ++ us.reverse, n₁₆, ps[y - 256].1 ++ todo, txt, t, rfl, F₁₆, ?_, by walk_at "lk", by walk_at "lk", by walk_at "lk", hp'.add (by simp [hu']), ?_, ?_, rfl, ?_⟩
        · have hlow : cost (ps.map (·.1)) ps[y - 256].1 = ps[y - 256].1.length := cost_low _ _ fun c hc => (hlet _ (List.getElem_mem hyl) c hc).2
          rw [cost_append, hlow, hcy]; omega
        · intro p hp
          simp only [List.mem_singleton] at hp; subst hp
          refine ⟨?_, (N₁₅ _ (.head _)).2⟩
          rw [o₁₆]; simp
        · rw [← htxt, expand_append, expand_cons, letters, if_pos hy, hyw, expand_low _ _ fun c hc => (hlet _ (List.getElem_mem hyl) c hc).2]
        · intro z hz
          rcases List.mem_append.mp hz with hz | hz
          · have := hlet _ (List.getElem_mem hyl) z hz
            exact ⟨this.1, .inl this.2⟩
          · exact htodo z (.tail _ hz)
        · have hlow : cost (ps.map (·.1)) ps[y - 256].1 = ps[y - 256].1.length := cost_low _ _ fun c hc => (hlet _ (List.getElem_mem hyl) c hc).2
          rw [cost_append, hlow]; omega
    · rw [if_neg (by simp; omega)]
      have hcy : cost (ps.map (·.1)) (y :: todo) = 1 + cost (ps.map (·.1)) todo := by rw [cost, if_neg hy]
      refine wpAny_execs_cons (wpAny_AugAssign_Name (ldnv F₁₁ (by walk_at "lk") (Call_Name1 (ldb F₁₁ G boot_chr (callWith_builtin1 (ldv F₁₁ (by walk_at "lk") (PySem.P.chr_of_int (by simp; omega) ?_)))))))
      refine iadd_str (hsz := by rw [slen]; show txt.length + 1 ≤ sizeLine; exact line_ok (by omega)) fun t' tk' => (stv F₁₁ N₁₁ fun h₁₂ tk₁₂ F₁₂ N₁₂ => wpAny_execs_nil (wpAny_execs_nil ?_))
      dsimp only at F₁₂ N₁₂ ⊢
      refine ⟨cost (ps.map (·.1)) todo, by omega, h₁₂, _, _, q, k + 1, todo, txt ++ [y], _, rfl, F₁₂, N₁₂, by walk_at "lk", by walk_at "lk", upd_self.trans (by rw [← S_app]; rfl), hp', ?_, fun z hz => htodo z (.tail _ hz), rfl, by omega⟩
      rw [← htxt, expand_cons, letters, if_neg hy]; simp
end Mine

namespace Mine
local macro_rules | `(tactic| walk_at "lk") => `(tactic| first | with_reducible assumption | exact upd_self | (refine (upd_ne (by decide)).trans ?_; walk_at "lk") | exact rfl)

section
variable {w : World} {A : Around} {E : Value → Shared → Prop} {s : Shared} {env : Env} {L P c : Addr} {B : Heap} {m mg mb : Str → Option Value} {led : List (Addr × Obj)} {ad : Nat → Addr}

theorem enterC {a : Addr} {i : Nat} {nm : Str} {pos : List Value} {binds : List (Str × Value)} {Q : Value → Shared → Prop}
    (hf : FnC s.heap a i nm c) (hlim : s.heap.NoLimit) (hroom : A.depth < recursionLimit)
    (hbind : ∀ pm doc, bindArgs (defFd nm nm (par i) (body i) (sco i) mainGlobals .none .none none pm (.ref c) doc) ⟨pos, []⟩ = pure binds)
    (hkind : ∀ n, ∀ x ∈ binds, (sco i).names.lookup x.1 = some .local ∨ ((sco i).names.lookup x.1 = some .cell ∧ ((cellsFrom n (sco i).names []).lookup x.1).isSome = true))
    (h : ∀ h₁ tk, Loc s.heap s.heap.objs.size h₁ (bindL (envOfC nm (sco i) s.heap.objs.size a (.ref c)).kindOf binds fun _ => none) →
      (∀ n cc, (cellsFrom (s.heap.objs.size + 1) (sco i).names []).lookup n = some cc → h₁.IsCell cc (bindC (envOfC nm (sco i) s.heap.objs.size a (.ref c)).kindOf binds (fun _ => none) n) ∧ s.heap.objs.size < cc) →
      wpAny (model P0 w) (A.deeper (envOfC nm (sco i) s.heap.objs.size a (.ref c))) (execs (body i) (envOfC nm (sco i) s.heap.objs.size a (.ref c)))
        (fun f s' => Q (match f with | .ret v => v | _ => .none) s') NoE { s with heap := h₁, toks := tk })
    (hco : (sco i).isCoroutine = false := by rfl) (hgen : (sco i).isGenerator = false := by rfl) (hk : (sco i).kind = .function := by rfl) :
    wpAny (model P0 w) A (call (.ref a) pos []) Q E s := by
  obtain ⟨pm, doc, ho, hcd⟩ := hf
  refine wpAny_call (codeAny_call_cells hroom ho rfl hlim hcd rfl (hbind pm doc) rfl (hkind _) (fun s₁ x => ?_) hco hgen hk)
  obtain ⟨h₁, tk, rfl⟩ := x.toInCall.same
  have F : Loc s.heap s.heap.objs.size h₁ _ := Loc.start x.toInCall.ns x.toInCall.keep
  refine wpAny_mono (h h₁ tk F fun n cc e => ⟨x.cell n cc e, x.above n cc (mem_of_lookup e)⟩) (fun _ _ q => q) fun _ _ q => q.elim

noncomputable def TabOk (B : Heap) (pos : Pos) (qual : Str) (ps : Array Value) : Prop :=
  TriplesOk ps.toList ∧ (codeAmong pos ps.toList = none ∨ ∃ c', codeAmong pos ps.toList = some (.ref c') ∧ B.CodeRec (.ref c') qual)
noncomputable def TabTo (B h h' : Heap) (pos : Pos) (qual : Str) (ps : Array Value) : Prop :=
  TriplesOk ps.toList ∧ ∃ c', codeAmong pos ps.toList = some (.ref c') ∧ h'.CodeRec (.ref c') qual ∧ (B.CodeRec (.ref c') qual ∨ h.get? c' = none)
theorem TabOk.keeps {B B' : Heap} {pos : Pos} {qual : Str} {ps : Array Value} (x : TabOk B pos qual ps) (k : Grown B B') : TabOk B' pos qual ps :=
  ⟨x.1, x.2.imp id fun e => e.elim fun c' e => ⟨c', e.1, e.2.keeps k⟩⟩

theorem triples_snoc {pos : Pos} {c : Value} (l : List Value) (h : TriplesOk l) : TriplesOk (l ++ [rawInt pos.line, rawInt pos.col, c]) := by
  fun_induction TriplesOk l with
  | case1 => trivial
  | case2 _ _ _ _ _ rest ih => exact ih h
  | case3 => exact h.elim

theorem lam_eval {params : Arguments} {bd : Expr} {scope : Scope} {pos : Pos} {clos : List (Str × Addr)} {ps : Array Value} {Q : Value → Shared → Prop}
    (F : Loc B L s.heap m) (N : News B L s.heap ((P, tabObj ps) :: led)) (hnd : ∀ p ∈ led, p.1 ≠ P) (G : Gnd ad mg mb B) (hC : CodeHd B c P) {B₀ : Heap} (g₀ : Grown B₀ B) (hok : TabOk B₀ pos (env.qual ++ "<lambda>") ps)
    (hcl : closureFor scope env = pure clos)
    (h : ∀ f c' ctv h' tk ps', Loc B L h' m → News B L h' ((P, tabObj ps') :: led) → h'.get? f = some (kla_obj "<lambda>" (env.qual ++ "<lambda>") params bd scope clos ((mg "__name__").getD .none) c' ctv) → s.heap.get? f = none →
      h'.CodeRec (.ref c') (env.qual ++ "<lambda>") → (B₀.CodeRec (.ref c') (env.qual ++ "<lambda>") ∨ s.heap.get? c' = none) → TabTo B₀ s.heap h' pos (env.qual ++ "<lambda>") ps' → Heap.ExtBut P s.heap h' → Q (.ref f) { s with heap := h', toks := tk })
    (hcode : env.code = .ref c := by rfl) (hge : env.globals = mainGlobals := by rfl) (hdef : defaultsOf params env = ([], []) := by rfl) :
    wpAny (model P0 w) A (eval (.Lambda params bd scope pos) env) Q E s := by
  have hm := N (P, tabObj ps) (.head _)
  have hgs := G.g.keeps F.keep
  obtain ⟨bm, ob, b1, b2, b3, b4, b5, b6, b7⟩ := G.bmain
  have hgP : mainGlobals ≠ P := fun q => by
    obtain ⟨o, es, ep, e, hd, _⟩ := hgs
    rw [q, hm.1] at e; cases e; cases hd
  have hbP : bm ≠ P := fun q => by
    have e := F.keep _ _ b4
    rw [q, hm.1] at e; cases e; cases b5
  have hbl : s.heap.BuiltinsAt mg P := ⟨bm, ob, b1, b2, b3, hbP, F.keep _ _ b4, b5, b6, b7⟩
  have hC' := hC.keeps F.keep
  obtain ⟨ht, hn | ⟨c', hc', hr⟩⟩ := hok
  · refine kla_eval hdef (kla_makeFunction (mg := mg) hcl hge hgs hcode hC' hm.1 ht hn hgP hbl fun c' ctv h' tk hx hge' hlt hrec htb => ?_)
    have hx' : Heap.ExtBut P s.heap (h'.push (kla_obj "<lambda>" (env.qual ++ "<lambda>") params bd scope clos ((mg "__name__").getD .none) c' ctv)) := fun b o hb e => Heap.get?_push_of_some _ (hx b o hb e)
    refine h _ c' ctv _ tk (ps ++ #[rawInt pos.line, rawInt pos.col, .ref c']) (F.but hx' hm.2.1 hm.2.2) ?_ (Heap.get?_push_size _ rfl) (get_above (Nat.le_of_lt (Nat.lt_of_le_of_lt hge' hlt))) (hrec.push _) (.inr (get_above hge')) ⟨?_, c', ?_, hrec.push _, .inr (get_above hge')⟩ hx'
    · intro p hp
      rcases List.mem_cons.mp hp with rfl | hp
      · exact ⟨Heap.get?_push_of_some _ htb, hm.2⟩
      · exact ⟨hx' _ _ (hnd p hp) (N p (.tail _ hp)).1, (N p (.tail _ hp)).2⟩
    · have := triples_snoc (pos := pos) (c := .ref c') _ ht
      simpa using this
    · have := codeAmong_snoc (pos := pos) (c := .ref c') _ ht hn
      simpa using this
  · refine kla_eval hdef (kla_makeFunctionHit (mg := mg) hcl hge hgs hcode hC' hm.1 ht hc' hbl fun ctv h' tk hk hsz => ?_)
    have hk' : Grown s.heap (h'.push { cls := .type "function", data := .func (kla_fn "<lambda>" (env.qual ++ "<lambda>") params bd scope clos ((mg "__name__").getD .none) (.ref c') ctv) }) := fun b o e => Heap.get?_push_of_some _ (hk b o e)
    exact h _ c' ctv _ tk ps (F.grow hk') (News.grow' N hk') (Heap.get?_push_size _ rfl) (get_above hsz) (((hr.keeps g₀).keeps F.keep).keeps hk') (.inl hr) ⟨ht, c', hc', ((hr.keeps g₀).keeps F.keep).keeps hk', .inl hr⟩ fun b o _ e => hk' b o e

noncomputable abbrev lamEnv (scope : Scope) (L : Addr) (clos : List (Str × Addr)) (qual : Str) (f c : Addr) : Env := newEnv scope L mainGlobals clos (qual ++ ".<locals>.") (some f) (.ref c) none builtinsNs

theorem lam_call {params : Arguments} {bd : Expr} {scope : Scope} {qual : Str} {clos : List (Str × Addr)} {pm ctv : Value} {f c' : Addr} {args : List Value} {binds : List (Str × Value)} {Q : Value → Shared → Prop}
    (ho : s.heap.get? f = some (kla_obj "<lambda>" qual params bd scope clos pm c' ctv)) (hcd : s.heap.CodeRec (.ref c') qual) (hlim : s.heap.NoLimit) (hroom : A.depth < recursionLimit)
    (hbind : bindArgs (kla_fn "<lambda>" qual params bd scope clos pm (.ref c') ctv) ⟨args, []⟩ = pure binds)
    (h : ∀ h₁ tk, Loc s.heap s.heap.objs.size h₁ (fun x => binds.reverse.lookup x) →
      wpAny (model P0 w) (A.deeper (lamEnv scope s.heap.objs.size clos qual f c')) (eval bd (lamEnv scope s.heap.objs.size clos qual f c')) Q NoE { s with heap := h₁, toks := tk })
    (hloc : ∀ x ∈ binds, scope.names.lookup x.1 = some .local) (hcell : ∀ x ∈ scope.names, x.2 ≠ .cell := by decide) (hco : scope.isCoroutine = false := by rfl) (hgen : scope.isGenerator = false := by rfl) (hk : scope.kind = .function := by rfl) :
    wpAny (model P0 w) A (call (.ref f) args []) Q E s := by
  refine wpAny_call (kla_callFunE hroom ho rfl hco hgen rfl hcd ?_)
  rw [hbind]
  refine wpAny_pure (wpAny_newFunctionEnv hcell hloc (fun h₁ hns hsb => ⟨hlim.fresh _ hsb, kla_codeExpr ?_⟩) hk)
  have hk₁ : Grown s.heap h₁ := fun b o e => hsb.extBut b o (Nat.ne_of_lt (Heap.lt_size e)) (Heap.get?_push_of_some _ e)
  exact wpAny_mono (h h₁ _ (Loc.start hns hk₁)) (fun _ _ q => q) fun _ _ q => q.elim
end
end Mine

namespace Mine
local macro_rules | `(tactic| walk_at "lk") => `(tactic| first | with_reducible assumption | exact upd_self | (refine (upd_ne (by decide)).trans ?_; walk_at "lk") | exact rfl)

theorem boot_range : bootBuiltins "range" = some (.type "range") := by decide +kernel

theorem lt_of_take : ∀ (k : Nat) (a b : List Nat), b.take k < a.take k → b < a := by
  intro k
  induction k with
  | zero => intro a b h; rw [List.take_zero, List.take_zero] at h; exact absurd h (List.not_lt_nil _)
  | succ k ih =>
    intro a b h
    cases a with
    | nil =>
    rw [List.take_nil] at h
    exact absurd h (List.not_lt_nil _)
    | cons x a =>
    cases b with
    | nil => exact List.nil_lt_cons _ _
    | cons y b =>
    rw [List.take_succ_cons, List.take_succ_cons, List.cons_lt_cons_iff] at h
    rw [List.cons_lt_cons_iff]
    rcases h with h | ⟨h, h'⟩
    · exact .inl h
    · exact .inr ⟨h, ih a b h'⟩
theorem take_le {a b : List Nat} (k : Nat) (h : a ≤ b) : a.take k ≤ b.take k := by
  rw [← List.not_lt] at h ⊢
  exact fun q => h (lt_of_take k a b q)
theorem prefix_le {a b : List Nat} (h : a <+: b) : a ≤ b := by
  obtain ⟨t, rfl⟩ := h
  rw [← List.not_lt]
  intro q
  have := lt_of_take a.length
  induction a with
  | nil => exact List.not_lt_nil _ q
  | cons x a ih =>
    rw [List.cons_append, List.cons_lt_cons_iff] at q
    rcases q with q | ⟨_, q⟩
    · exact Nat.lt_irrefl _ q
    · exact ih q (lt_of_take _)

structure Begun (ws : List (List Nat)) (x : List Nat) (lo hi : Nat) : Prop where
  l : lo ≤ hi
  h : hi ≤ ws.length
  iff : ∀ i (h : i < ws.length), (lo ≤ i ∧ i < hi) ↔ x <+: ws[i]

theorem begun_of {ps : List WT} {x : List Nat} {lo hi : Nat} (b1 : Bis (fun i => ∃ h : i < ps.length, ps[i].1 < x) 0 ps.length lo lo)
    (b2 : Bis (fun i => ∃ h : i < ps.length, ¬ x < ps[i].1.take x.length) lo ps.length hi hi) : Begun (ps.map (·.1)) x lo hi := by
  refine ⟨b2.l, by simpa using b2.h, fun i hi' => ?_⟩
  have hil : i < ps.length := by simpa using hi'
  simp only [List.getElem_map]
  constructor
  · rintro ⟨h1, h2⟩
    have hge : x ≤ ps[i].1 := by
      rw [← List.not_lt]
      exact fun q => b1.no i h1 hil ⟨hil, q⟩
    obtain ⟨_, hle⟩ := b2.yes i h1 h2
    have h3 := take_le x.length hge
    rw [List.take_length] at h3
    have e : ps[i].1.take x.length = x := List.le_antisymm (List.not_lt.mp hle) h3
    rw [← e]; exact List.take_prefix _ _
  · intro hp
    have e : ps[i].1.take x.length = x := (List.prefix_iff_eq_take.mp hp).symm
    constructor
    · refine Nat.not_lt.mp fun q => ?_
      obtain ⟨_, q⟩ := b1.yes i (Nat.zero_le _) q
      exact List.not_lt.mpr (prefix_le hp) q
    · refine Nat.not_le.mp fun q => ?_
      refine b2.no i q hil ⟨hil, ?_⟩
      rw [e]; exact List.lt_irrefl x

section
variable {w : World} {A : Around} {E : Value → Shared → Prop} {s : Shared} {env : Env}
theorem Call_NameK {x k : Str} {p pos kp : Pos} {args : List Expr} {kv : Expr} {trees : List (Bool × Sem Value)} {Q : Value → Shared → Prop} (ht : backTo pos (starEach args env) = trees)
    (h : wpAny (model P0 w) A (eval (.Name x p) env) (fun f s₁ => wpAny (model P0 w) A (callWith pos f [] trees [(some k, do let v ← eval kv env; standAt pos; pure v)]) Q E s₁) E s) :
    wpAny (model P0 w) A (eval (.Call (.Name x p) args [⟨some k, kv, kp⟩] pos) env) Q E s := by
  subst ht
  exact wpAny_bind h
theorem kwv {e : Expr} {pos : Pos} {Q : Value → Shared → Prop} (h : wpAny (model P0 w) A (eval e env) Q E s) : wpAny (model P0 w) A (do let v ← eval e env; standAt pos; pure v) Q E s :=
  wpAny_bind (wpAny_mono h (fun _ _ q => wpAny_bind (wpAny_standAt (wpAny_pure q))) fun _ _ e => e)
end
section
variable {w : World} {A : Around} {E : Value → Shared → Prop} {s : Shared} {ad : Nat → Addr} {mg mb : Str → Option Value}

theorem brk_call3 {l kf : Addr} {xv : Value} {vs : List Value} {lo0 : Nat} {t0 : Tok} {p : Nat → Prop} {ko : Obj} {kfd : FuncData} {Q : Value → Shared → Prop}
    (G : Gnd ad mg mb s.heap) (hA : A.depth < recursionLimit) (hl : s.heap.IsList l vs.toArray) (hn : vs.length < 1000000) (hlo : lo0 ≤ vs.length) (hko : s.heap.get? kf = some ko) (hkd : ko.data = .func kfd)
    (hkey : ∀ (env : Env) (s' : Shared) i (hi : i < vs.length) (Q' : Value → Shared → Prop), (∀ b o, s.heap.get? b = some o → s'.heap.get? b = some o) →
      (∀ h' tk v, (∀ b o, s'.heap.get? b = some o → h'.get? b = some o) → (∀ (s'' : Shared) (Q'' : Value → Shared → Prop) (c : Bool), (c = true ↔ ¬ p i) → Q'' (.bool c) s'' → wpAny (model P0 w) (A.deeper env) (compareOp .Lt xv v) Q'' NoE s'') → Q' v { s' with heap := h', toks := tk }) →
      wpAny (model P0 w) (A.deeper env) (call (.ref kf) [vs[i]] []) Q' NoE s')
    (mono : ∀ i j, i ≤ j → j < vs.length → p j → p i)
    (h : ∀ h' tk t k, Grown s.heap h' → Bis p lo0 vs.length k k → Q (.int (k : Nat) t) { s with heap := h', toks := tk }) :
    wpAny (model P0 w) A (call (.ref (ad 2)) [.ref l, xv, .int (lo0 : Nat) t0] [("key", .ref kf)]) Q E s := by
  obtain ⟨_, dV, kV, hf, hd⟩ := G.bis (2, "bisect_right") (by decide)
  refine enter hf G.nolimit hA (bind3k_2 (nm := "bisect_right") hd) fun h₁ cd hns hk => ?_
  exact brk_body (Loc.start hns hk) News.nil G hl hn hlo rfl rfl rfl rfl rfl hko hkd (hkey _) mono fun h' tk t m' k F' _ b => h _ _ _ _ F'.keep b
theorem brk_call4 {l kf : Addr} {xv : Value} {vs : List Value} {t0 : Tok} {p : Nat → Prop} {ko : Obj} {kfd : FuncData} {Q : Value → Shared → Prop}
    (G : Gnd ad mg mb s.heap) (hA : A.depth < recursionLimit) (hl : s.heap.IsList l vs.toArray) (hn : vs.length < 1000000) (hko : s.heap.get? kf = some ko) (hkd : ko.data = .func kfd)
    (hkey : ∀ (env : Env) (s' : Shared) i (hi : i < vs.length) (Q' : Value → Shared → Prop), (∀ b o, s.heap.get? b = some o → s'.heap.get? b = some o) →
      (∀ h' tk v, (∀ b o, s'.heap.get? b = some o → h'.get? b = some o) → (∀ (s'' : Shared) (Q'' : Value → Shared → Prop) (c : Bool), (c = true ↔ ¬ p i) → Q'' (.bool c) s'' → wpAny (model P0 w) (A.deeper env) (compareOp .Lt xv v) Q'' NoE s'') → Q' v { s' with heap := h', toks := tk }) →
      wpAny (model P0 w) (A.deeper env) (call (.ref kf) [vs[i]] []) Q' NoE s')
    (mono : ∀ i j, i ≤ j → j < vs.length → p j → p i)
    (h : ∀ h' tk t k, Grown s.heap h' → Bis p 0 vs.length k k → Q (.int (k : Nat) t) { s with heap := h', toks := tk }) :
    wpAny (model P0 w) A (call (.ref (ad 2)) [.ref l, xv, .int 0 t0, .none] [("key", .ref kf)]) Q E s := by
  obtain ⟨_, dV, kV, hf, hd⟩ := G.bis (2, "bisect_right") (by decide)
  refine enter hf G.nolimit hA (bind4k_2 (nm := "bisect_right") hd) fun h₁ cd hns hk => ?_
  exact brk_body (lo0 := 0) (Loc.start hns hk) News.nil G hl hn (Nat.zero_le _) rfl rfl rfl rfl rfl hko hkd (hkey _) mono fun h' tk t m' k F' _ b => h _ _ _ _ F'.keep b

noncomputable def posB : Pos := ⟨99, 56, 99, 85⟩
noncomputable def qualB : Str := ("_law_begun" : Str) ++ ".<locals>." ++ "<lambda>"
noncomputable def posW : Pos := ⟨101, 57, 101, 75⟩
noncomputable def qualW : Str := ("_law_wait" : Str) ++ ".<locals>." ++ "<lambda>"

set_option maxHeartbeats 2000000 in
theorem begun_call {B : Heap} {l : Addr} {ps : List WT} {x : List Nat} {tx : Tok} {tab : Array Value} {Q : Value → Shared → Prop}
    (G : Gnd ad mg mb B) (hB : Grown B s.heap) (hBP : B.get? (ad 120) = none) (R : Rm A 4) (htab : s.heap.get? (ad 120) = some (tabObj tab)) (hok : TabOk B posB qualB tab)
    (hl : B.IsList l (ps.map sv).toArray) (hn : ps.length < 1000000) (hs : Srt (ps.map (·.1))) (hx : x.length < 1000000) (hlen : ∀ p ∈ ps, p.1.length < 1000000)
    (h : ∀ h' tk r lo hi t1 t2 t3 tab', Heap.ExtBut (ad 120) s.heap h' → h'.get? (ad 120) = some (tabObj tab') → TabTo B s.heap h' posB qualB tab' → IsRange h' r ((lo : Nat) : Int) ((hi : Nat) : Int) 1 t1 t2 t3 → s.heap.get? r = none → Begun (ps.map (·.1)) x lo hi →
      Q (.ref r) { s with heap := h', toks := tk }) :
    wpAny (model P0 w) A (call (.ref (ad 20)) [.ref l, .str (S x) tx] []) Q E s := by
  obtain ⟨c, hf, hC⟩ := G.lamB
  refine enterC (binds := [("code", .ref l), ("rest", .str (S x) tx)]) (hf.keeps hB) (G.nolimit.keeps hB) R.d (fun _ _ => rfl) (fun n y hy => by
      rcases List.mem_cons.mp hy with rfl | hy
      · exact .inl rfl
      · rcases List.mem_cons.mp hy with rfl | hy
        · exact .inr ⟨rfl, rfl⟩
        · cases hy) fun h₁ tk₁ F₀ hcell => ?_
  obtain ⟨hc1, hc2⟩ := hcell "rest" (s.heap.objs.size + 1) rfl
  obtain ⟨F, N, hB'⟩ := Loc.hide hB hBP F₀.ns F₀.keep htab
  obtain ⟨B₁, g₁, F₁, N₁, hin₁⟩ := rebase F N
  replace R := R.deep (envOfC "_law_begun" (sco 20) s.heap.objs.size (ad 20) (.ref c))
  have gB : Grown B B₁ := Grown.trans hB' g₁
  have hcB : B₁.IsCell (s.heap.objs.size + 1) (some (.str (S x) tx)) := by
    obtain ⟨oc, ho, hd⟩ := hc1
    refine ⟨oc, hin₁ _ _ ho (Nat.ne_of_gt hc2) ?_, hd⟩
    intro p hp q
    simp at hp; subst hp
    have hlt := Heap.lt_size htab
    have q' : ad 120 = s.heap.objs.size + 1 := q
    rw [q'] at hlt
    exact Nat.lt_irrefl _ (Nat.lt_trans (Nat.lt_succ_self _) hlt)
  have sB : ∀ b o, b ≠ ad 120 → s.heap.get? b = some o → B₁.get? b = some o := fun b o hb e => g₁ b o (by rw [Heap.hide_ne _ hb]; exact e)
  replace G := G.keeps gB
  have hl' : B₁.IsList l (ps.map sv).toArray := listK hl (gB)
  obtain ⟨e3, _, _, hf3, _⟩ := G.bisOf 3 "bisect_left" (by decide)
  obtain ⟨e2, _, _, hf2, _⟩ := G.bisOf 2 "bisect_right" (by decide)
  refine wpAny_execs_cons (wpAny_Assign_Name (Call_Name rfl (ldgE F₁ G e3 (callFn hf3 ?_))))
  refine spliced_cons (ldE F₁ rfl (spliced_cons (ldC (hcB.keeps F₁.keep) (spliced_nil (wpAny_evalAll_nil ⟨F₁.keep, ?_⟩)))))
  refine bl_call (G.keeps F₁.keep) R.d (F₁.lst hl') hn (hs.monoL x) fun h₂ tk₂ t₂ lo hk₂ bl => ?_
  have F₂ := F₁.grow hk₂
  have N₂ := News.grow' N₁ hk₂
  refine stE F₂ N₂ fun h₃ tk₃ F₃ N₃ => wpAny_execs_cons (wpAny_Return_some (Call_Name rfl (ldbE F₃ G boot_range ?_)))
  dsimp only at F₃ N₃ ⊢
  refine PyProof.Rows.callWith_type rfl (Calls.evalArgs_plain ?_)
  refine spliced_cons (ldE F₃ upd_self ?_)
  refine spliced_cons (Call_NameK rfl ?_)
  refine ldgE F₃ G e2 ?_
  refine callFn hf2 ?_
  refine spliced_cons (ldE F₃ (by walk_at "lk") (spliced_cons (ldC (hcB.keeps F₃.keep) (spliced_cons (ldE F₃ upd_self (spliced_nil (wpAny_evalAll_cons (kwv ?_))))))))
  refine lam_eval (clos := [("rest", s.heap.objs.size + 1)]) F₃ N₃ (fun p hp => noMem hp) G (hC.keeps gB) gB hok rfl fun f c' ctv h₄ tk₄ tab' F₄ N₄ of nf hcr _ htt x₄ => ?_
  refine wpAny_evalAll_nil ⟨F₄.keep, ?_⟩
  refine brk_call3 (p := fun i => ∃ h : i < ps.length, ¬ x < ps[i].1.take x.length) (G.keeps F₄.keep) R.d (F₄.lst hl') (by simpa using hn) (by simpa using bl.h) of rfl ?_ ?_ ?_
  · intro env s' i hi Q' hk' hQ'
    have hip : i < ps.length := by simpa using hi
    refine lam_call (binds := [("word", (ps.map sv)[i])]) (hk' _ _ of) (hcr.keeps hk') (G.nolimit.keeps (Grown.trans F₄.keep hk')) (R.deep env).d rfl (fun h₅ tk₅ F₅ => ?_) (fun y hy => by
      rcases List.mem_cons.mp hy with rfl | hy
      · rfl
      · cases hy)
    have hc5 : h₅.IsCell (s.heap.objs.size + 1) (some (.str (S x) tx)) := ((hcB.keeps F₄.keep).keeps hk').keeps F₅.keep
    refine sub_to (ldE F₅ rfl (Call_Name1 (ldbE F₅ (G.keeps (Grown.trans F₄.keep hk')) boot_len (callWith_builtin1 (ldF hc5 (SBL.len (by rw [slen]; omega) ?_))))))
    refine ⟨ps[i].1, ps[i].2, x.length, _, by simp, by rw [slen], hlen _ (List.getElem_mem hip), fun h₆ t₆ tk₆ k₆ => ?_⟩
    refine hQ' _ _ _ (Grown.trans F₅.keep k₆) fun s'' Q'' cc hcc hq => lt_str ?_
    have : (decide (x < ps[i].1.take x.length)) = cc := by
      rw [Bool.eq_iff_iff, decide_eq_true_eq, hcc]
      constructor
      · rintro q ⟨_, q'⟩; exact q' q
      · intro q; exact Classical.byContradiction fun q' => q ⟨hip, q'⟩
    show Q'' (.bool (decide (x < ps[i].1.take x.length))) s''
    rw [this]; exact hq
  · rintro i j hij hj ⟨hj', q⟩
    have hj'' : j < ps.length := hj'
    refine ⟨by omega, fun q' => q ?_⟩
    have hle : ps[i].1 ≤ ps[j].1 := by
      rcases Nat.lt_or_ge i j with c | c
      · have := hs.at (i := i) (j := j) (by simpa using hj'') c
        simp only [List.getElem_map] at this
        exact List.le_of_lt this
      · have : i = j := by omega
        subst this; exact List.le_refl _
    exact lt_of_lt_le q' (take_le _ hle)
  · intro h₇ tk₇ t₇ hi k₇ br
    have F₇ := F₄.grow k₇
    have N₇ := News.grow' N₄ k₇
    refine spliced_nil (PySem.call_range_2 ?_)
    dsimp only at F₇ N₇ ⊢
    have hend : Heap.ExtBut (ad 120) s.heap (h₇.push { cls := .type "range", data := .fields #[.int (lo : Int) t₂, .int (hi : Int) t₇, .int 1 tk₇] }) := fun b o hb e => Heap.get?_push_of_some _ (F₇.keep b o (sB b o hb e))
    have hsz : s.heap.objs.size ≤ h₇.objs.size := Nat.le_of_lt F₇.ns.lt
    have hcr7 : h₇.CodeRec (.ref c') qualB := hcr.keeps k₇
    refine h _ _ _ lo hi t₂ t₇ tk₇ tab' hend (Heap.get?_push_of_some _ (N₇.get (.head _))) ?_ (Heap.get?_push_size _ rfl) (get_above hsz) (begun_of bl (by simpa using br))
    obtain ⟨ht, c₁, e1, r1, r2⟩ := htt
    refine ⟨ht, c₁, e1, (r1.keeps k₇).push _, r2.imp id fun r2 => ?_⟩
    cases e : s.heap.get? c₁ with
    | none => rfl
    | some o =>
      by_cases hcP : c₁ = ad 120
      · rw [hcP, N₃.get (.head _)] at r2; cases r2
      · rw [F₃.keep _ _ (sB _ _ hcP e)] at r2; cases r2
end
end Mine

namespace Mine
local macro_rules | `(tactic| walk_at "lk") => `(tactic| first | with_reducible assumption | exact upd_self | (refine (upd_ne (by decide)).trans ?_; walk_at "lk") | exact rfl)

noncomputable def QE (h : Heap) (v : Value) (z : Int) : Prop := ∃ T its t, v = .ref T ∧ h.get? T = some (tupOf its) ∧ its[0]? = some (.int z t)
theorem QE.keeps {h h' : Heap} {v : Value} {z : Int} (x : QE h v z) (k : Grown h h') : QE h' v z := by obtain ⟨T, its, t, a, b, c⟩ := x; exact ⟨T, its, t, a, k _ _ b, c⟩

section
variable {w : World} {A : Around} {E : Value → Shared → Prop} {s : Shared} {ad : Nat → Addr} {mg mb : Str → Option Value}

noncomputable abbrev KeyOf (w : World) (B : Heap) (kf : Addr) : Prop :=
  ∀ (A' : Around) (s' : Shared) (v : Value) (z : Int) (Q' : Value → Shared → Prop), A'.depth < recursionLimit → Grown B s'.heap → QE s'.heap v z →
    (∀ h' tk t, Grown s'.heap h' → Q' (.int z t) { s' with heap := h', toks := tk }) → wpAny (model P0 w) A' (call (.ref kf) [v] []) Q' NoE s'

set_option maxHeartbeats 2000000 in
theorem irk_call {B : Heap} {l kf : Addr} {n : Nat} {vs : List Value} {zs : List Int} {xv : Value} {z : Int} {ko : Obj} {kfd : FuncData} {Q : Value → Shared → Prop}
    (G : Gnd ad mg mb B) (hB : Grown B s.heap) (hBl : B.get? l = none) (R : Rm A 3) (hl : s.heap.get? l = some (listOf vs.toArray n)) (hn : vs.length < 1000000) (hz : zs.length = vs.length)
    (hq : ∀ i (h : i < vs.length), QE B vs[i] (zs[i]'(by omega))) (hx : QE B xv z) (hko : B.get? kf = some ko) (hkd : ko.data = .func kfd) (hkey : KeyOf w B kf)
    (hs : ∀ i j (_ : i < zs.length) (_ : j < zs.length), i ≤ j → zs[i] ≤ zs[j])
    (h : ∀ h' tk k n', Heap.ExtBut l s.heap h' → Bis (fun i => ∃ h : i < zs.length, zs[i] ≤ z) 0 zs.length k k → h'.get? l = some (listOf (vs.take k ++ xv :: vs.drop k).toArray n') → Q .none { s with heap := h', toks := tk }) :
    wpAny (model P0 w) A (call (.ref (ad 1)) [.ref l, xv] [("key", .ref kf)]) Q E s := by
  obtain ⟨_, dV, kV, hf, hd⟩ := G.bis (1, "insort_right") (by decide)
  obtain ⟨t, hb⟩ := bind2k_1 (s := s) (nm := "insort_right") (v := .ref l) (x := xv) (key := .ref kf) (hd.keeps hB)
  refine enter (hf.keeps hB) (G.nolimit.keeps hB) R.d hb fun h₁ cd hns hk => ?_
  replace R := R.deep (envOf "insort_right" (sco 1) s.heap.objs.size (ad 1) cd)
  obtain ⟨F, N, hB'⟩ := Loc.hide hB hBl hns hk hl
  have G' := G.keeps hB'
  obtain ⟨e2, dV', kV', hf', hd'⟩ := G'.bis (2, "bisect_right") (by decide)
  refine wpAny_execs_cons (wpAny_If (wpAny_isTrue_Compare1 (ldv F rfl (wpAny_Constant_none (is_none_ne (fun e => by cases e) (wpAny_truthy_bool ?_))))))
  rw [if_neg Bool.false_ne_true]
  refine wpAny_execs_cons (wpAny_Assign_Name (Call_NameK rfl (ldg F G' e2 (callFn hf' ?_))))
  refine spliced_cons (ldv F rfl (spliced_cons ?_))
  refine Call_Name1 (ldv F rfl ?_)
  refine callWith_function_kw (o := ko) (fd := kfd) (evalArgs_kw rfl (spliced_cons (ldv F rfl (spliced_nil (wpAny_evalAll_nil ⟨⟨F.keep _ _ (hB' _ _ hko), hkd⟩, ?_⟩)))))
  refine wpAny_mono (hkey _ _ _ z (fun v s' => ∃ h' tk t, Grown h₁ h' ∧ v = .int z t ∧ s' = { s with heap := h', toks := tk }) R.d (Grown.trans hB' F.keep) ((hx.keeps hB').keeps F.keep) fun h' tk t k' => ⟨h', tk, t, k', rfl, rfl⟩) (fun v s' q => ?_) fun _ _ q => q.elim
  obtain ⟨h₂, tk₂, t₂, k₂, rfl, rfl⟩ := q
  have F₂ := F.grow k₂
  have N₂ := News.grow' N k₂
  refine spliced_cons (ldv F₂ rfl (spliced_cons (ldv F₂ rfl (spliced_nil (wpAny_evalAll_cons (kwv (ldv F₂ rfl (wpAny_evalAll_nil ⟨F₂.keep, ?_⟩))))))))
  refine brk_call4 (vs := vs) (p := fun i => ∃ h : i < zs.length, zs[i] ≤ z) (G'.keeps F₂.keep) R.d ⟨_, N₂.get (.head _), rfl, _, rfl⟩ hn (F₂.keep _ _ (hB' _ _ hko)) hkd ?_ ?_ ?_
  · intro env s' i hi Q' hk' hQ'
    have gs : Grown B s'.heap := fun b o e => hk' b o (F₂.keep b o (hB' b o e))
    refine hkey _ s' _ (zs[i]'(by omega)) Q' (R.deep env).d gs ((hq i hi).keeps gs) fun h' tk t k' => hQ' h' tk _ k' fun s'' Q'' cc hcc hqq => ?_
    refine wpAny_lt_int ?_
    have : decide (z < zs[i]'(by omega)) = cc := by
      rw [Bool.eq_iff_iff, decide_eq_true_eq, hcc]
      constructor
      · rintro q ⟨_, q'⟩; omega
      · intro q
        refine Int.not_le.mp fun q' => q ⟨by omega, q'⟩
    rw [this]; exact hqq
  · rintro i j hij hj ⟨hj', q⟩
    exact ⟨by omega, Int.le_trans (hs i j (by omega) hj' hij) q⟩
  · intro h₃ tk₃ t₃ k k₃ bb
    have F₃ := F₂.grow k₃
    have N₃ := News.grow' N₂ k₃
    refine stv F₃ N₃ fun h₄ _ F₄ N₄ => wpAny_execs_nil (wpAny_execs_cons (wpAny_Expr_any (MethodCall_ (ldv F₄ (by walk_at "lk") (lmeth (N₄.get (.head _)) PySem.F.slot_list_insert PySem.F.type_list_insert ?_)))))
    refine Calls.callWith_builtin rfl (Calls.evalArgs_plain (spliced_cons (ldv F₄ (by walk_at "lk") (spliced_cons (ldv F₄ (by walk_at "lk") (spliced_nil ?_))))))
    have hkl := bb.h
    refine insert_to (N₄.get (.head _)) rfl hkl (by simpa using hn) fun h₅ hs₅ ho₅ => wpAny_execs_nil ?_
    refine h h₅ _ k (n + 1) (fun b o hb' e => ?_) ⟨bb.l, bb.m, by rw [hz]; exact bb.h, bb.yes, fun i a b => bb.no i a (by rw [← hz]; exact b)⟩ ho₅
    refine (F₄.change hs₅ (N₄ _ (.head _)).2.1 (N₄ _ (.head _)).2.2).keep b o ?_
    rw [Heap.hide_ne _ hb']
    exact e

theorem key_one {B : Heap} {kf c' : Addr} {pm ctv : Value} {pv pp pz : Pos} {scope : Scope} {params : Arguments} (hlim : B.NoLimit)
    (ho : B.get? kf = some (kla_obj "<lambda>" qualW params (.Subscript (.Name "one" pv) (.Constant (.int 0) 0 pz) pp) scope [] pm c' ctv)) (hcd : B.CodeRec (.ref c') qualW)
    (hb : ∀ v, bindArgs (kla_fn "<lambda>" qualW params (.Subscript (.Name "one" pv) (.Constant (.int 0) 0 pz) pp) scope [] pm (.ref c') ctv) ⟨[v], []⟩ = pure [(("one" : Str), v)])
    (hsc : scope = { kind := .function, names := [("one", .local)], isGenerator := false, isCoroutine := false, more := [] }) : KeyOf w B kf := by
  subst hsc
  intro A' s' v z Q' hA gs hq h
  refine lam_call (gs _ _ ho) (hcd.keeps gs) (hlim.keeps gs) hA (hb v) (fun h₁ tk F => ?_) (fun y hy => by
      rcases List.mem_cons.mp hy with rfl | hy
      · rfl
      · cases hy)
  obtain ⟨T, its, t, rfl, hT, h0⟩ := hq.keeps F.keep
  refine Subscript_ (ldE F rfl (wpAny_Constant_int (item_tuple (items := its) (k := 0) (j := 0) ⟨_, hT, rfl, _, rfl⟩ (by decide) (by decide) ?_ h0 (h _ _ _ F.keep))))
  have : 0 < its.size := by
    rcases Nat.eq_zero_or_pos its.size with e | e
    · rw [Array.size_eq_zero_iff.mp e] at h0; simp at h0
    · exact e
  unfold seqIndex?
  simp [this]

set_option maxHeartbeats 2000000 in
theorem wait_call {B : Heap} {l : Addr} {n : Nat} {vs : List Value} {zs : List Int} {z : Int} {tz : Tok} {vr vb va : Value} {tab : Array Value} {Q : Value → Shared → Prop}
    (G : Gnd ad mg mb B) (hB : Grown B s.heap) (hBl : B.get? l = none) (hBP : B.get? (ad 121) = none) (hlP : l ≠ ad 121) (R : Rm A 4) (htab : s.heap.get? (ad 121) = some (tabObj tab)) (hok : TabOk B posW qualW tab)
    (hl : s.heap.get? l = some (listOf vs.toArray n)) (hn : vs.length < 1000000) (hz : zs.length = vs.length) (hq : ∀ i (h : i < vs.length), QE B vs[i] (zs[i]'(by omega)))
    (hs : ∀ i j (_ : i < zs.length) (_ : j < zs.length), i ≤ j → zs[i] ≤ zs[j])
    (h : ∀ h' tk k n' T tab', (∀ b o, b ≠ l → b ≠ ad 121 → s.heap.get? b = some o → h'.get? b = some o) → h'.get? (ad 121) = some (tabObj tab') → TabTo B s.heap h' posW qualW tab' →
      Bis (fun i => ∃ h : i < zs.length, zs[i] ≤ z) 0 zs.length k k → h'.get? l = some (listOf (vs.take k ++ .ref T :: vs.drop k).toArray n') → s.heap.get? T = none → h'.get? T = some (tupOf #[.int z tz, vr, vb, va]) → Q .none { s with heap := h', toks := tk }) :
    wpAny (model P0 w) A (call (.ref (ad 21)) [.ref l, .int z tz, vr, vb, va] []) Q E s := by
  obtain ⟨c, hf, hC⟩ := G.lamW
  refine enterC (binds := [("queue", .ref l), ("size", .int z tz), ("rest", vr), ("behind", vb), ("ahead", va)]) (hf.keeps hB) (G.nolimit.keeps hB) R.d (fun _ _ => rfl) (fun n y hy => by
      simp only [List.mem_cons, List.not_mem_nil, or_false] at hy
      rcases hy with rfl | rfl | rfl | rfl | rfl <;> exact .inl rfl) fun h₁ tk₁ F₀ _ => ?_
  have hB1 : Grown B (hideL s.heap [ad 121, l]) := fun b o e => by
    rw [hideL_out _ _ _ fun q => ?_]
    · exact hB b o e
    · simp only [List.mem_cons, List.not_mem_nil, or_false] at q
      rcases q with rfl | rfl
      · rw [hBP] at e; cases e
      · rw [hBl] at e; cases e
  have F : Loc (hideL s.heap [ad 121, l]) s.heap.objs.size h₁ _ := ⟨F₀.ns, fun b o e => F₀.keep b o (hideL_of _ _ _ _ e), by
    cases e : (hideL s.heap [ad 121, l]).get? s.heap.objs.size with
    | none => rfl
    | some o => exact absurd (Heap.lt_size (hideL_of _ _ _ _ e)) (Nat.lt_irrefl _)⟩
  have N : News (hideL s.heap [ad 121, l]) s.heap.objs.size h₁ [(ad 121, tabObj tab), (l, listOf vs.toArray n)] := by
    intro p hp
    simp only [List.mem_cons, List.not_mem_nil, or_false] at hp
    rcases hp with rfl | rfl
    · exact ⟨F₀.keep _ _ htab, Nat.ne_of_lt (Heap.lt_size htab), hideL_in _ _ _ (.head _)⟩
    · exact ⟨F₀.keep _ _ hl, Nat.ne_of_lt (Heap.lt_size hl), hideL_in _ _ _ (.tail _ (.head _))⟩
  have hnd : ∀ p ∈ [(l, listOf vs.toArray n)], p.1 ≠ ad 121 := fun p hp => by simp at hp; subst hp; exact hlP
  replace R := R.deep (envOfC "_law_wait" (sco 21) s.heap.objs.size (ad 21) (.ref c))
  have G₁ := G.keeps hB1
  obtain ⟨e1, dV', kV', hf1, hd'⟩ := G₁.bis (1, "insort_right") (by decide)
  refine wpAny_execs_cons (wpAny_Expr_any (Call_NameK rfl (ldgE F G₁ e1 (callFn hf1 ?_))))
  refine spliced_cons (ldE F rfl (spliced_cons (tup_disp (k := 0) (spl4 ?_))))
  refine ldE F rfl (ldE F rfl (ldE F rfl (ldE F rfl ⟨by simp, fun h₂ T k₂ n₂ o₂ => ?_⟩)))
  have F₂ := F.grow k₂
  have N₂ := News.grow' N k₂
  refine spliced_nil (wpAny_evalAll_cons (kwv ?_))
  refine lam_eval (clos := []) F₂ N₂ hnd G₁ (hC.keeps hB1) hB1 hok rfl fun f c' ctv h₃ tk₃ tab' F₃ N₃ of nf hcr hcc htt x₃ => ?_
  refine wpAny_evalAll_nil ⟨F₃.keep, ?_⟩
  obtain ⟨B₂, g₂, F₄, N₄, hin⟩ := rebase F₃ N₃
  have hTP : T ≠ ad 121 := fun q => by rw [q, (N _ (.head _)).1] at n₂; cases n₂
  have hTl : T ≠ l := fun q => by rw [q, (N _ (.tail _ (.head _))).1] at n₂; cases n₂
  have hTL : T ≠ s.heap.objs.size := fun q => by
    obtain ⟨oL, _, _, hL, _⟩ := F.ns
    rw [q, hL] at n₂; cases n₂
  have oT : h₃.get? T = some (tupOf #[.int z tz, vr, vb, va]) := x₃ _ _ hTP o₂
  have hTB : B₂.get? T = some (tupOf #[.int z tz, vr, vb, va]) := hin _ _ oT hTL fun p hp => by
    simp only [List.mem_cons, List.not_mem_nil, or_false] at hp
    rcases hp with rfl | rfl
    · exact hTP.symm
    · exact hTl.symm
  have notin : ∀ b, h₂.get? b = none → b ≠ s.heap.objs.size ∧ ∀ p ∈ [(ad 121, tabObj tab'), (l, listOf vs.toArray n)], p.1 ≠ b := fun b hb => by
    refine ⟨fun q => ?_, fun p hp q => ?_⟩
    · obtain ⟨oL, _, _, hL, _⟩ := F₂.ns
      rw [q, hL] at hb; cases hb
    · simp only [List.mem_cons, List.not_mem_nil, or_false] at hp
      rcases hp with rfl | rfl
      · rw [← q, N₂.get (.head _)] at hb; cases hb
      · rw [← q, N₂.get (.tail _ (.head _))] at hb; cases hb
  have hfB := hin _ _ of (notin _ nf).1 (notin _ nf).2
  have gB : Grown B B₂ := Grown.trans hB1 g₂
  have hcB : B₂.CodeRec (.ref c') qualW := by
    rcases hcc with hcc | hcc
    · exact hcc.keeps gB
    · obtain ⟨_, o, us, t, e, ho, r⟩ := hcr
      cases e
      exact ⟨c', o, us, t, rfl, hin _ _ ho (notin _ hcc).1 (notin _ hcc).2, r⟩
  refine irk_call (zs := zs) (z := z) (G.keeps gB) F₄.keep (N₄ _ (.tail _ (.head _))).2.2 R (N₄.get (.tail _ (.head _))) hn hz (fun i hi => (hq i hi).keeps gB) ⟨T, _, tz, rfl, hTB, rfl⟩ hfB rfl
    (key_one (G.nolimit.keeps gB) hfB hcB (fun _ => rfl) rfl) hs fun h₅ tk₅ k n₅ x₅ bb o₅ => wpAny_execs_nil ?_
  have hPl : ad 121 ≠ l := hlP.symm
  refine h h₅ _ k n₅ T tab' (fun b o hb hbP e => ?_) (x₅ _ _ hPl (N₄.get (.head _))) ?_ bb o₅ ?_ (x₅ _ _ hTl oT)
  · refine x₅ _ _ hb (F₃.keep b o ?_)
    rw [hideL_out _ _ _ fun q => ?_]
    · exact e
    · simp only [List.mem_cons, List.not_mem_nil, or_false] at q
      rcases q with q | q
      · exact hbP q
      · exact hb q
  · obtain ⟨ht, c₁, e1', r1, r2⟩ := htt
    refine ⟨ht, c₁, e1', ?_, r2.imp id fun r2 => ?_⟩
    · obtain ⟨_, o, us, t, e, ho, hd, r⟩ := r1
      cases e
      refine ⟨c₁, o, us, t, rfl, x₅ _ _ (fun q => ?_) ho, hd, r⟩
      rw [q, N₄.get (.tail _ (.head _))] at ho
      cases ho; cases hd
    · cases e : s.heap.get? c₁ with
      | none => rfl
      | some o => rw [k₂ _ _ (F₀.keep _ _ e)] at r2; cases r2
  · cases e : s.heap.get? T with
    | none => rfl
    | some o => rw [F₀.keep _ _ e] at n₂; cases n₂
end
end Mine

namespace Mine
local macro_rules | `(tactic| walk_at "lk") => `(tactic| first | with_reducible assumption | exact upd_self | (refine (upd_ne (by decide)).trans ?_; walk_at "lk") | exact rfl)

structure QI where
  size : Nat
  rest : List Nat
  behind : List Nat
  ahead : List Nat
deriving DecidableEq

noncomputable def waitL (q : List QI) (e : QI) : List QI :=
  let k := q.countP (fun o => decide (o.size ≤ e.size))
  q.take k ++ e :: q.drop k

noncomputable def SrtQ (q : List QI) : Prop := q.Pairwise fun a b => a.size ≤ b.size

theorem waitL_eq {q : List QI} {e : QI} {k : Nat} (b : Bis (fun i => ∃ h : i < (q.map fun o => (o.size : Int)).length, (q.map fun o => (o.size : Int))[i] ≤ (e.size : Int)) 0 (q.map fun o => (o.size : Int)).length k k) : waitL q e = q.take k ++ e :: q.drop k := by
  have : q.countP (fun o => decide (o.size ≤ e.size)) = k := by
    refine countP_cut _ _ _ (by simpa using b.h) (fun i h hi => ?_) (fun i h hi => ?_)
    · obtain ⟨_, c⟩ := b.yes i (Nat.zero_le _) hi
      simp only [List.getElem_map] at c
      simp; omega
    · have := b.no i hi (by simpa using h)
      simp only [decide_eq_false_iff_not]
      intro c
      exact this ⟨by simpa using h, by simp only [List.getElem_map]; omega⟩
  unfold waitL
  rw [this]
theorem mem_waitL {q : List QI} {e x : QI} (h : x ∈ waitL q e) : x ∈ q ∨ x = e := by
  unfold waitL at h
  rcases List.mem_append.mp h with h | h
  · exact .inl (List.mem_of_mem_take h)
  · rcases List.mem_cons.mp h with h | h
    · exact .inr h
    · exact .inl (List.mem_of_mem_drop h)
theorem length_waitL (q : List QI) (e : QI) : (waitL q e).length = q.length + 1 := by
  unfold waitL
  simp only [List.length_append, List.length_cons, List.length_take, List.length_drop]
  have := List.countP_le_length (p := fun o : QI => decide (o.size ≤ e.size)) (l := q)
  omega
theorem countP_sorted : ∀ (q : List QI) (z : Nat), SrtQ q → ∀ i (h : i < q.length), (i < q.countP (fun o => decide (o.size ≤ z)) ↔ q[i].size ≤ z) := by
  intro q
  induction q with
  | nil => intro _ _ i h; exact absurd h (Nat.not_lt_zero _)
  | cons a r ih =>
    intro z hs i h
    obtain ⟨h1, h2⟩ := List.pairwise_cons.mp hs
    rw [List.countP_cons]
    by_cases ha : a.size ≤ z
    · simp only [ha, decide_true, if_true]
      cases i with
      | zero => simp [ha]
      | succ i =>
        rw [Nat.add_lt_add_iff_right]
        exact ih z h2 i (Nat.lt_of_succ_lt_succ h)
    · have h0 : r.countP (fun o => decide (o.size ≤ z)) = 0 := by
        rw [List.countP_eq_zero]
        intro x hx
        have := h1 x hx
        simp; omega
      simp only [ha, decide_false, Bool.false_eq_true, if_false, h0]
      constructor
      · intro q; omega
      · intro q
        cases i with
        | zero => exact absurd q ha
        | succ i =>
          have := h1 (r[i]'(by simpa using h)) (List.getElem_mem _)
          simp only [List.getElem_cons_succ] at q
          omega
theorem SrtQ.wait {q : List QI} (h : SrtQ q) (e : QI) : SrtQ (waitL q e) := by
  have key := countP_sorted q e.size h
  unfold waitL
  generalize hk : q.countP (fun o => decide (o.size ≤ e.size)) = k at key ⊢
  have hkl : k ≤ q.length := hk ▸ List.countP_le_length
  unfold SrtQ
  rw [List.pairwise_append]
  refine ⟨h.sublist (List.take_sublist _ _), List.pairwise_cons.mpr ⟨fun x hx => ?_, h.sublist (List.drop_sublist _ _)⟩, fun a ha b hb => ?_⟩
  · obtain ⟨i, hi, rfl⟩ := List.getElem_of_mem hx
    rw [List.getElem_drop]
    rw [List.length_drop] at hi
    have := key (k + i) (by omega)
    omega
  · obtain ⟨i, hi, rfl⟩ := List.getElem_of_mem ha
    rw [List.length_take] at hi
    rw [List.getElem_take]
    have h1 := (key i (by omega)).mp (by omega)
    rcases List.mem_cons.mp hb with rfl | hb
    · exact h1
    · obtain ⟨j, hj, rfl⟩ := List.getElem_of_mem hb
      rw [List.getElem_drop]
      rw [List.length_drop] at hj
      have := key (k + j) (by omega)
      omega

noncomputable def Row (h : Heap) (a : Addr) (row : List Nat) : Prop := ∃ (rs : List IT) (n : Nat), h.get? a = some (listOf (rs.map iv).toArray n) ∧ rs.map (·.1) = row.map Int.ofNat
theorem Row.keeps {h h' : Heap} {a : Addr} {row : List Nat} (x : Row h a row) (k : Grown h h') : Row h' a row := by obtain ⟨rs, n, ho, e⟩ := x; exact ⟨rs, n, k _ _ ho, e⟩

noncomputable def EntryIs (h : Heap) (v : Value) (e : QI) : Prop :=
  ∃ T tz tr lb la, v = .ref T ∧ h.get? T = some (tupOf #[.int (e.size : Int) tz, .str (S e.rest) tr, .ref lb, .ref la]) ∧ Row h lb e.behind ∧ Row h la e.ahead
theorem EntryIs.keeps {h h' : Heap} {v : Value} {e : QI} (x : EntryIs h v e) (k : Grown h h') : EntryIs h' v e :=
  by obtain ⟨T, tz, tr, lb, la, a, b, c, d⟩ := x; exact ⟨T, tz, tr, lb, la, a, k _ _ b, c.keeps k, d.keeps k⟩
noncomputable def EntriesAre (h : Heap) (vs : List Value) (es : List QI) : Prop := vs.length = es.length ∧ ∀ i (h1 : i < vs.length) (h2 : i < es.length), EntryIs h vs[i] es[i]
theorem EntriesAre.keeps {h h' : Heap} {vs : List Value} {es : List QI} (x : EntriesAre h vs es) (k : Grown h h') : EntriesAre h' vs es := ⟨x.1, fun i a b => (x.2 i a b).keeps k⟩
theorem EntriesAre.put {h : Heap} {vs : List Value} {es : List QI} {v : Value} {e : QI} (x : EntriesAre h vs es) (y : EntryIs h v e) (k : Nat) (hk : k ≤ es.length) : EntriesAre h (vs.take k ++ v :: vs.drop k) (es.take k ++ e :: es.drop k) := by
  obtain ⟨hl, hx⟩ := x
  refine ⟨by simp [hl], fun i h1 h2 => ?_⟩
  have e1 : (vs.take k).length = k := by rw [List.length_take]; omega
  have e2 : (es.take k).length = k := by rw [List.length_take]; omega
  rcases Nat.lt_trichotomy i k with c | c | c
  · rw [List.getElem_append_left (by omega), List.getElem_append_left (by omega), List.getElem_take, List.getElem_take]
    exact hx i (by omega) (by omega)
  · rw [List.getElem_append_right (by omega), List.getElem_append_right (by omega)]
    simp only [e1, e2]
    have : i - k = 0 := by omega
    simp only [this, List.getElem_cons_zero]
    exact y
  · rw [List.getElem_append_right (by omega), List.getElem_append_right (by omega)]
    simp only [e1, e2]
    obtain ⟨j, hj⟩ : ∃ j, i - k = j + 1 := ⟨i - k - 1, by omega⟩
    simp only [hj, List.getElem_cons_succ, List.getElem_drop]
    exact hx _ _ _
theorem EntriesAre.tail {h : Heap} {v : Value} {vs : List Value} {e : QI} {es : List QI} (x : EntriesAre h (v :: vs) (e :: es)) : EntryIs h v e ∧ EntriesAre h vs es :=
  ⟨x.2 0 (by simp) (by simp), by have := x.1; simpa using this, fun i a b => x.2 (i + 1) (by simpa using a) (by simpa using b)⟩
theorem EntryIs.qe {h : Heap} {v : Value} {e : QI} (x : EntryIs h v e) : QE h v (e.size : Int) := by obtain ⟨T, tz, tr, lb, la, a, b, _⟩ := x; exact ⟨T, _, tz, a, b, rfl⟩

theorem Loc.chg {B h h' : Heap} {L : Addr} {m : Str → Option Value} (F : Loc B L h m) (ch : List Addr) (hk : ∀ b o, b ∉ ch → h.get? b = some o → h'.get? b = some o) (hL : L ∉ ch) (hB : ∀ b ∈ ch, B.get? b = none) : Loc B L h' m := by
  obtain ⟨oL, a1, a2, hoL, a3⟩ := F.ns
  exact ⟨⟨oL, a1, a2, hk _ _ hL hoL, a3⟩, fun b o e => hk b o (fun q => by rw [hB b q] at e; cases e) (F.keep b o e), F.free⟩
theorem News.upd {B h h' : Heap} {L : Addr} {led led' : List (Addr × Obj)} (N : News B L h led) (h1 : ∀ p ∈ led', (∃ o, (p.1, o) ∈ led) ∧ h'.get? p.1 = some p.2) : News B L h' led' := fun p hp =>
  by obtain ⟨⟨o, ho⟩, e⟩ := h1 p hp; exact ⟨e, (N _ ho).2⟩

section
variable {w : World} {A : Around} {E : Value → Shared → Prop} {s : Shared} {ad : Nat → Addr} {mg mb : Str → Option Value} {B : Heap} {L q sn : Addr} {m : Str → Option Value} {its : List (Addr × Obj)} {vs : List Value} {n : Nat} {so : Obj} {t1 t2 : Array Value} {es : List QI}

noncomputable abbrev ledS (ad : Nat → Addr) (its : List (Addr × Obj)) (q : Addr) (vs : List Value) (n : Nat) (sn : Addr) (so : Obj) (t1 t2 : Array Value) : List (Addr × Obj) :=
  its ++ [(q, listOf vs.toArray n), (sn, so), (ad 120, tabObj t1), (ad 121, tabObj t2)]

theorem fresh_out {h : Heap} {led : List (Addr × Obj)} (F : Loc B L h m) (N : News B L h led) {b : Addr} (hb : h.get? b = none) : b ≠ L ∧ ∀ p ∈ led, p.1 ≠ b := by
  refine ⟨fun e => ?_, fun p hp e => ?_⟩
  · obtain ⟨oL, _, _, hL, _⟩ := F.ns
    rw [e, hL] at hb; cases hb
  · rw [← e, (N p hp).1] at hb; cases hb

set_option maxHeartbeats 1000000 in
theorem wait_do {e : QI} {tz tr : Tok} {lb la : Addr} {Q : Value → Shared → Prop} (G : Gnd ad mg mb B) (F : Loc B L s.heap m) (N : News B L s.heap (ledS ad its q vs n sn so t1 t2)) (hnd : ((ledS ad its q vs n sn so t1 t2).map (·.1)).Nodup) (R : Rm A 4)
    (hent : EntriesAre B vs es) (hs : SrtQ es) (hz : es.length < 900000) (htab : TabOk B posW qualW t2) (hlb : Row B lb e.behind) (hla : Row B la e.ahead)
    (h : ∀ B' h' tk vs' n' t2', Grown B B' → Loc B' L h' m → News B' L h' (ledS ad its q vs' n' sn so t1 t2') → EntriesAre B' vs' (waitL es e) → TabOk B' posW qualW t2' → Q .none { s with heap := h', toks := tk }) :
    wpAny (model P0 w) A (call (.ref (ad 21)) [.ref q, .int (e.size : Int) tz, .str (S e.rest) tr, .ref lb, .ref la] []) Q E s := by
  have mq : (q, listOf vs.toArray n) ∈ ledS ad its q vs n sn so t1 t2 := List.mem_append_right _ (.head _)
  have ms : (sn, so) ∈ ledS ad its q vs n sn so t1 t2 := List.mem_append_right _ (.tail _ (.head _))
  have m1 : (ad 120, tabObj t1) ∈ ledS ad its q vs n sn so t1 t2 := List.mem_append_right _ (.tail _ (.tail _ (.head _)))
  have m2 : (ad 121, tabObj t2) ∈ ledS ad its q vs n sn so t1 t2 := List.mem_append_right _ (.tail _ (.tail _ (.tail _ (.head _))))
  have hnd' := hnd
  simp only [List.map_append, List.map_cons, List.map_nil, List.nodup_append, List.nodup_cons, List.mem_cons, List.not_mem_nil, or_false, not_or, List.mem_map] at hnd'
  obtain ⟨_, ⟨⟨nqs, nq1, nq2⟩, ⟨ns1, ns2⟩, n12, _⟩, nits⟩ := hnd'
  refine wait_call (zs := es.map fun o => (o.size : Int)) (tab := t2) G F.keep (N _ mq).2.2 (N _ m2).2.2 nq2 R (N _ m2).1 htab (N _ mq).1 (by rw [hent.1]; omega) (by simp [hent.1]) (fun i hi => ?_) (fun i j hi hj hij => ?_) fun h' tk k n' T t2' hk' o2' tt bb oq hT oT => ?_
  · have := (hent.2 i hi (by have := hent.1; omega)).qe
    simpa using this
  · simp only [List.getElem_map]
    rcases Nat.lt_or_ge i j with c | c
    · have := List.pairwise_iff_getElem.mp hs i j (by simpa using hi) (by simpa using hj) c
      omega
    · have : i = j := by omega
      subst this; exact Int.le_refl _
  · have hL1 : L ≠ q := (N _ mq).2.1.symm
    have hL2 : L ≠ ad 121 := (N _ m2).2.1.symm
    have F' : Loc B L h' m := F.chg [q, ad 121] (fun b o hb e => hk' b o (fun c => hb (by simp [c])) (fun c => hb (by simp [c])) e) (by simp [hL1, hL2]) (fun b hb => by
      simp only [List.mem_cons, List.not_mem_nil, or_false] at hb
      rcases hb with rfl | rfl
      · exact (N _ mq).2.2
      · exact (N _ m2).2.2)
    have N' : News B L h' (ledS ad its q (vs.take k ++ .ref T :: vs.drop k) n' sn so t1 t2') := by
      refine News.upd N fun p hp => ?_
      rcases List.mem_append.mp hp with hp | hp
      · refine ⟨⟨p.2, List.mem_append_left _ hp⟩, hk' _ _ (fun c => ?_) (fun c => ?_) (N p (List.mem_append_left _ hp)).1⟩
        · exact nits p.1 ⟨p, hp, rfl⟩ q (.inl rfl) c
        · exact nits p.1 ⟨p, hp, rfl⟩ (ad 121) (.inr (.inr (.inr rfl))) c
      · simp only [List.mem_cons, List.not_mem_nil, or_false] at hp
        rcases hp with rfl | rfl | rfl | rfl
        · exact ⟨⟨_, mq⟩, oq⟩
        · exact ⟨⟨_, ms⟩, hk' _ _ (fun c => nqs c.symm) ns2 (N _ ms).1⟩
        · exact ⟨⟨_, m1⟩, hk' _ _ (fun c => nq1 c.symm) n12 (N _ m1).1⟩
        · exact ⟨⟨_, m2⟩, o2'⟩
    obtain ⟨B', g', F'', N'', hin⟩ := rebase F' N'
    have out : ∀ b, s.heap.get? b = none → b ≠ L ∧ ∀ p ∈ ledS ad its q (vs.take k ++ .ref T :: vs.drop k) n' sn so t1 t2', p.1 ≠ b := fun b hb => by
      obtain ⟨x1, x2⟩ := fresh_out F N hb
      refine ⟨x1, fun p hp => ?_⟩
      rcases List.mem_append.mp hp with hp | hp
      · exact x2 p (List.mem_append_left _ hp)
      · simp only [List.mem_cons, List.not_mem_nil, or_false] at hp
        rcases hp with rfl | rfl | rfl | rfl
        · exact x2 (q, listOf vs.toArray n) mq
        · exact x2 _ ms
        · exact x2 (ad 120, tabObj t1) m1
        · exact x2 (ad 121, tabObj t2) m2
    refine h B' h' tk _ n' t2' g' F'' N'' ?_ ?_
    · rw [waitL_eq bb]
      refine (hent.keeps g').put ⟨T, tz, tr, lb, la, rfl, hin _ _ oT (out T hT).1 (out T hT).2, hlb.keeps g', hla.keeps g'⟩ k (by simpa using bb.h)
    · obtain ⟨ht, c', e1, r1, r2⟩ := tt
      refine ⟨ht, .inr ⟨c', e1, ?_⟩⟩
      rcases r2 with r2 | r2
      · exact r2.keeps g'
      · obtain ⟨_, o, us, t, e, ho, r⟩ := r1
        cases e
        exact ⟨c', o, us, t, rfl, hin _ _ ho (out _ r2).1 (out _ r2).2, r⟩

set_option maxHeartbeats 1000000 in
theorem begun_do {l : Addr} {ps : List WT} {x : List Nat} {tx : Tok} {Q : Value → Shared → Prop} (G : Gnd ad mg mb B) (F : Loc B L s.heap m) (N : News B L s.heap (ledS ad its q vs n sn so t1 t2)) (hnd : ((ledS ad its q vs n sn so t1 t2).map (·.1)).Nodup) (R : Rm A 4)
    (htab : TabOk B posB qualB t1) (hl : B.IsList l (ps.map sv).toArray) (hn : ps.length < 1000000) (hs : Srt (ps.map (·.1))) (hx : x.length < 1000000) (hlen : ∀ p ∈ ps, p.1.length < 1000000)
    (h : ∀ B' h' tk r lo hi u1 u2 u3 t1', Grown B B' → Loc B' L h' m → News B' L h' (ledS ad its q vs n sn so t1' t2) → TabOk B' posB qualB t1' → IsRange B' r ((lo : Nat) : Int) ((hi : Nat) : Int) 1 u1 u2 u3 → Begun (ps.map (·.1)) x lo hi → Q (.ref r) { s with heap := h', toks := tk }) :
    wpAny (model P0 w) A (call (.ref (ad 20)) [.ref l, .str (S x) tx] []) Q E s := by
  have mq : (q, listOf vs.toArray n) ∈ ledS ad its q vs n sn so t1 t2 := List.mem_append_right _ (.head _)
  have ms : (sn, so) ∈ ledS ad its q vs n sn so t1 t2 := List.mem_append_right _ (.tail _ (.head _))
  have m1 : (ad 120, tabObj t1) ∈ ledS ad its q vs n sn so t1 t2 := List.mem_append_right _ (.tail _ (.tail _ (.head _)))
  have m2 : (ad 121, tabObj t2) ∈ ledS ad its q vs n sn so t1 t2 := List.mem_append_right _ (.tail _ (.tail _ (.tail _ (.head _))))
  have hnd' := hnd
  simp only [List.map_append, List.map_cons, List.map_nil, List.nodup_append, List.nodup_cons, List.mem_cons, List.not_mem_nil, or_false, not_or, List.mem_map] at hnd'
  obtain ⟨_, ⟨⟨nqs, nq1, nq2⟩, ⟨ns1, ns2⟩, n12, _⟩, nits⟩ := hnd'
  refine begun_call (tab := t1) G F.keep (N _ m1).2.2 R (N _ m1).1 htab hl hn hs hx hlen fun h' tk r lo hi u1 u2 u3 t1' x' o1' tt hr hrn hb => ?_
  have F' : Loc B L h' m := F.but x' (N _ m1).2.1 (N _ m1).2.2
  have N' : News B L h' (ledS ad its q vs n sn so t1' t2) := by
    refine News.upd N fun p hp => ?_
    rcases List.mem_append.mp hp with hp | hp
    · refine ⟨⟨p.2, List.mem_append_left _ hp⟩, x' _ _ (fun c => ?_) (N p (List.mem_append_left _ hp)).1⟩
      exact nits p.1 ⟨p, hp, rfl⟩ (ad 120) (.inr (.inr (.inl rfl))) c
    · simp only [List.mem_cons, List.not_mem_nil, or_false] at hp
      rcases hp with rfl | rfl | rfl | rfl
      · exact ⟨⟨_, mq⟩, x' _ _ nq1 (N _ mq).1⟩
      · exact ⟨⟨_, ms⟩, x' _ _ ns1 (N _ ms).1⟩
      · exact ⟨⟨_, m1⟩, o1'⟩
      · exact ⟨⟨_, m2⟩, x' _ _ (fun c => n12 c.symm) (N _ m2).1⟩
  obtain ⟨B', g', F'', N'', hin⟩ := rebase F' N'
  have out : ∀ b, s.heap.get? b = none → b ≠ L ∧ ∀ p ∈ ledS ad its q vs n sn so t1' t2, p.1 ≠ b := fun b hb => by
    obtain ⟨x1, x2⟩ := fresh_out F N hb
    refine ⟨x1, fun p hp => ?_⟩
    rcases List.mem_append.mp hp with hp | hp
    · exact x2 p (List.mem_append_left _ hp)
    · simp only [List.mem_cons, List.not_mem_nil, or_false] at hp
      rcases hp with rfl | rfl | rfl | rfl
      · exact x2 (q, listOf vs.toArray n) mq
      · exact x2 _ ms
      · exact x2 (ad 120, tabObj t1) m1
      · exact x2 (ad 121, tabObj t2) m2
  refine h B' h' tk r lo hi u1 u2 u3 t1' g' F'' N'' ?_ (hin _ _ hr (out r hrn).1 (out r hrn).2) hb
  obtain ⟨ht, c', e1, r1, r2⟩ := tt
  refine ⟨ht, .inr ⟨c', e1, ?_⟩⟩
  rcases r2 with r2 | r2
  · exact r2.keeps g'
  · obtain ⟨_, o, us, t, e, ho, r⟩ := r1
    cases e
    exact ⟨c', o, us, t, rfl, hin _ _ ho (out _ r2).1 (out _ r2).2, r⟩
end
end Mine

namespace Mine

noncomputable abbrev wd (ws : List (List Nat)) (i : Nat) : List Nat := ws.getD i []
noncomputable def begunR (ws : List (List Nat)) (x : List Nat) : List Nat := (List.range ws.length).filter fun i => x.isPrefixOf (wd ws i)
noncomputable def qA (ws : List (List Nat)) (k m : Nat) : QI := ⟨(wd ws m).length, (wd ws m).drop (wd ws k).length, [256 + k], [256 + m]⟩
noncomputable def inA (ws : List (List Nat)) (k : Nat) (q : List QI) (m : Nat) : List QI := if m = k then q else waitL q (qA ws k m)
noncomputable def outA (ws : List (List Nat)) (q : List QI) (k : Nat) : List QI := (begunR ws (wd ws k)).foldl (inA ws k) q
noncomputable def startL (ws : List (List Nat)) : List QI := (List.range ws.length).foldl (outA ws) []
noncomputable def qB (ws : List (List Nat)) (e : QI) (m : Nat) : QI := ⟨e.size + (wd ws m).length - e.rest.length, (wd ws m).drop e.rest.length, e.ahead, e.behind ++ [256 + m]⟩
noncomputable def inB (ws : List (List Nat)) (e : QI) (q : List QI) (m : Nat) : List QI := waitL q (qB ws e m)
noncomputable def cutAt (ws : List (List Nat)) (x : List Nat) : Nat := ws.countP fun y => decide (y < x)
noncomputable def qC (ws : List (List Nat)) (e : QI) (cut : Nat) : QI := ⟨e.size, e.rest.drop cut, e.behind ++ [256 + cutAt ws (e.rest.take cut)], e.ahead⟩
noncomputable def inC (ws : List (List Nat)) (e : QI) (q : List QI) (cut : Nat) : List QI :=
  if (ws.drop (cutAt ws (e.rest.take cut))).take 1 = [e.rest.take cut] then waitL q (qC ws e cut) else q
noncomputable def stepL (ws : List (List Nat)) (e : QI) (q : List QI) : List QI :=
  (List.range' 1 (e.rest.length - 1)).foldl (inC ws e) ((begunR ws e.rest).foldl (inB ws e) q)
noncomputable def shortL (ws : List (List Nat)) : Nat → List QI → List (List Nat) → Option QI
  | 0, _, _ => none
  | _ + 1, [], _ => some ⟨0, [], [], []⟩
  | f + 1, e :: q, seen => if e.rest = [] then some e else if e.rest ∈ seen then shortL ws f q seen else shortL ws f (stepL ws e q) (seen ++ [e.rest])

theorem range_interval (n lo hi : Nat) (h1 : lo ≤ hi) (h2 : hi ≤ n) : (List.range n).filter (fun i => decide (lo ≤ i ∧ i < hi)) = List.range' lo (hi - lo) := by
  have e : List.range n = List.range' 0 lo ++ (List.range' lo (hi - lo) ++ List.range' hi (n - hi)) := by
    rw [List.range_eq_range']
    have a := List.range'_append (s := lo) (m := hi - lo) (n := n - hi) (step := 1)
    have b := List.range'_append (s := 0) (m := lo) (n := n - lo) (step := 1)
    simp only [Nat.one_mul, Nat.zero_add] at a b
    rw [show lo + (hi - lo) = hi by omega, show hi - lo + (n - hi) = n - lo by omega] at a
    rw [show lo + (n - lo) = n by omega] at b
    rw [a, b]
  rw [e, List.filter_append, List.filter_append]
  have f1 : (List.range' 0 lo).filter (fun i => decide (lo ≤ i ∧ i < hi)) = [] := by
    rw [List.filter_eq_nil_iff]
    intro a ha
    simp only [List.mem_range'_1] at ha
    simp; omega
  have f2 : (List.range' lo (hi - lo)).filter (fun i => decide (lo ≤ i ∧ i < hi)) = List.range' lo (hi - lo) := by
    rw [List.filter_eq_self]
    intro a ha
    simp only [List.mem_range'_1] at ha
    simp; omega
  have f3 : (List.range' hi (n - hi)).filter (fun i => decide (lo ≤ i ∧ i < hi)) = [] := by
    rw [List.filter_eq_nil_iff]
    intro a ha
    simp only [List.mem_range'_1] at ha
    simp; omega
  rw [f1, f2, f3]; simp

theorem begunR_eq {ws : List (List Nat)} {x : List Nat} {lo hi : Nat} (b : Begun ws x lo hi) : begunR ws x = List.range' lo (hi - lo) := by
  rw [← range_interval ws.length lo hi b.l b.h]
  unfold begunR
  refine List.filter_congr fun i hi' => ?_
  rw [List.mem_range] at hi'
  have e : wd ws i = ws[i] := by simp [wd, List.getD_eq_getElem?_getD, hi']
  rw [e, Bool.eq_iff_iff, List.isPrefixOf_iff_prefix, decide_eq_true_eq]
  exact (b.iff i hi').symm

structure QB (c : Nat) (es : List QI) : Prop where
  len : es.length ≤ c
  ent : ∀ e ∈ es, e.rest.length ≤ 100 ∧ e.behind.length ≤ c ∧ e.ahead.length ≤ c
theorem QB.mono {c c' : Nat} {es : List QI} (x : QB c es) (h : c ≤ c') : QB c' es := ⟨Nat.le_trans x.len h, fun e he => by obtain ⟨a, b, d⟩ := x.ent e he; exact ⟨a, Nat.le_trans b h, Nat.le_trans d h⟩⟩
theorem QB.wait {c : Nat} {es : List QI} {e : QI} (x : QB c es) (h1 : e.rest.length ≤ 100) (h2 : e.behind.length ≤ c + 1) (h3 : e.ahead.length ≤ c + 1) : QB (c + 1) (waitL es e) := by
  refine ⟨by rw [length_waitL]; have := x.len; omega, fun o ho => ?_⟩
  rcases mem_waitL ho with ho | rfl
  · obtain ⟨a, b, d⟩ := x.ent o ho; exact ⟨a, by omega, by omega⟩
  · exact ⟨h1, h2, h3⟩

theorem foldl_range' {α : Type} (f : α → Nat → α) (a : α) (lo i : Nat) : (List.range' lo (i + 1)).foldl f a = f ((List.range' lo i).foldl f a) (lo + i) := by
  rw [List.range'_concat, List.foldl_append]; simp
theorem foldl_range {α : Type} (f : α → Nat → α) (a : α) (i : Nat) : (List.range (i + 1)).foldl f a = f ((List.range i).foldl f a) i := by
  rw [List.range_succ, List.foldl_append]; rfl
end Mine

namespace Mine
local macro_rules | `(tactic| walk_at "lk") => `(tactic| first | with_reducible assumption | exact upd_self | (refine (upd_ne (by decide)).trans ?_; walk_at "lk") | exact rfl)

noncomputable def nthS (l : List Stmt) (i : Nat) : Stmt := (l[i]?).getD (.Pass default)
noncomputable def forBody : Stmt → List Stmt
  | .For _ _ b _ _ => b
  | _ => []
noncomputable def whileBody : Stmt → List Stmt
  | .While _ b _ _ => b
  | _ => []
noncomputable def ifBody : Stmt → List Stmt
  | .If _ b _ _ => b
  | _ => []

theorem iter_range {w : World} {A : Around} {E : Value → Shared → Prop} {s : Shared} {r : Addr} {a b : Nat} {t u v : Tok} {Q : Value → Shared → Prop} (hr : IsRange s.heap r (a : Int) (b : Int) 1 t u v) (hab : a ≤ b) (hb : b < 1000000)
    (h : ∀ h' I o, Grown s.heap h' → s.heap.get? I = none → h'.get? I = some o → RIt (a : Int) (b - a) 0 o → Q (.ref I) { s with heap := h' }) : wpAny (model P0 w) A (pyIter (.ref r)) Q E s := by
  refine wpAny_pyIter_range hr (small_one (by omega) (by omega) (by omega) (by omega)) (h _ _ _ (Grown.push _ _) (get_size _) (Heap.get?_push_size _ rfl) ?_)
  unfold RIt
  rw [rangeSize_one]
  have e : (if (a : Int) < (b : Int) then (b : Int) - (a : Int) else 0) = (((b - a : Nat) : Int) - ((0 : Nat) : Int)) := by
    split <;> omega
  rw [e]; simp

inductive SInv (ad : Nat → Addr) (q sn : Addr) (its : List (Addr × Obj)) (so : Obj) (B : Heap) (led : List (Addr × Obj)) (es : List QI) : Prop
  | mk : ∀ vs n t1 t2, led = ledS ad its q vs n sn so t1 t2 → (led.map (·.1)).Nodup → EntriesAre B vs es → SrtQ es → TabOk B posB qualB t1 → TabOk B posW qualW t2 → SInv ad q sn its so B led es

theorem nd_ledS {ad : Nat → Addr} {q sn : Addr} {its : List (Addr × Obj)} {so so' : Obj} {vs vs' : List Value} {n n' : Nat} {t1 t1' t2 t2' : Array Value} (h : ((ledS ad its q vs n sn so t1 t2).map (·.1)).Nodup) : ((ledS ad its q vs' n' sn so' t1' t2').map (·.1)).Nodup := by
  simp only [ledS, List.map_append, List.map_cons, List.map_nil] at h ⊢
  exact h
theorem SInv.keeps {ad : Nat → Addr} {q sn : Addr} {its : List (Addr × Obj)} {so : Obj} {B B' : Heap} {led : List (Addr × Obj)} {es : List QI} (x : SInv ad q sn its so B led es) (k : Grown B B') : SInv ad q sn its so B' led es :=
  by obtain ⟨vs, n, t1, t2, a, b, c, d, e, f⟩ := x; exact ⟨vs, n, t1, t2, a, b, c.keeps k, d, e.keeps k, f.keeps k⟩
theorem SInv.push {ad : Nat → Addr} {q sn : Addr} {its : List (Addr × Obj)} {so : Obj} {B : Heap} {led : List (Addr × Obj)} {es : List QI} (x : SInv ad q sn its so B led es) {I : Addr} {o : Obj} (h : ∀ p ∈ led, p.1 ≠ I) : SInv ad q sn ((I, o) :: its) so B ((I, o) :: led) es := by
  obtain ⟨vs, n, t1, t2, rfl, b, c1, c2, c3, c4⟩ := x
  refine ⟨vs, n, t1, t2, rfl, ?_, c1, c2, c3, c4⟩
  rw [List.map_cons, List.nodup_cons]
  refine ⟨fun q => ?_, b⟩
  obtain ⟨p, hp, e⟩ := List.mem_map.mp q
  exact h p hp e
theorem SInv.pop {ad : Nat → Addr} {q sn : Addr} {its : List (Addr × Obj)} {so : Obj} {B : Heap} {led : List (Addr × Obj)} {es : List QI} {I : Addr} {o : Obj} (x : SInv ad q sn ((I, o) :: its) so B led es) : ∃ led', led = (I, o) :: led' ∧ (∀ p ∈ led', p.1 ≠ I) ∧ SInv ad q sn its so B led' es := by
  obtain ⟨vs, n, t1, t2, rfl, b, c1, c2, c3, c4⟩ := x
  rw [ledS, List.cons_append, List.map_cons, List.nodup_cons] at b
  exact ⟨_, rfl, fun p hp e => b.1 (List.mem_map.mpr ⟨p, hp, e⟩), ⟨vs, n, t1, t2, rfl, b.2, c1, c2, c3, c4⟩⟩

inductive SJ (ad : Nat → Addr) (q sn : Addr) (its : List (Addr × Obj)) (so : Obj) (m : Str → Option Value) (y : Str) (es : List QI) (c : Nat) (B' : Heap) (m' : Str → Option Value) (led' : List (Addr × Obj)) : Prop
  | mk : SInv ad q sn its so B' led' es → QB c es → (∀ x : Str, x ≠ "m" → x ≠ y → m' x = m x) → SJ ad q sn its so m y es c B' m' led'

structure CodeIs (B : Heap) (l : Addr) (ps : List WT) : Prop where
  list : B.IsList l (ps.map sv).toArray
  n : ps.length ≤ 10
  len : ∀ p ∈ ps, p.1.length ≤ 100
  srt : Srt (ps.map (·.1))
  cps : Cps ps
theorem CodeIs.keeps {B B' : Heap} {l : Addr} {ps : List WT} (x : CodeIs B l ps) (k : Grown B B') : CodeIs B' l ps := ⟨listK x.list (k), x.n, x.len, x.srt, x.cps⟩
theorem CodeIs.wd {B : Heap} {l : Addr} {ps : List WT} (x : CodeIs B l ps) {i : Nat} (h : i < ps.length) : Mine.wd (ps.map (·.1)) i = ps[i].1 := by simp [Mine.wd, List.getD_eq_getElem?_getD, h]

section
variable {w : World} {A : Around} {s : Shared} {ad : Nat → Addr} {mg mb : Str → Option Value} {B : Heap} {L a q sn l : Addr} {cd : Value} {m : Str → Option Value} {its : List (Addr × Obj)} {so : Obj} {led : List (Addr × Obj)} {es : List QI} {ps : List WT}

noncomputable abbrev envS (L a : Addr) (cd : Value) : Env := envOf "_law_shortest" (sco 22) L a cd

theorem code_item {E : Value → Shared → Prop} {m' : Str → Option Value} {B' : Heap} {x : Str} {p1 p2 p3 : Pos} {i : Nat} {t : Tok} {Q : Value → Shared → Prop} (F : Loc B' L s.heap m') (C : CodeIs B' l ps) (mc : m' "code" = some (.ref l)) (mx : m' x = some (.int (i : Int) t)) (hi : i < ps.length)
    (h : Q (sv ps[i]) s) (hl : (envS L a cd).kindOf x = some .local := by rfl) (hd : (x == ("__debug__" : Str)) = false := by decide) :
    wpAny (model P0 w) A (eval (.Subscript (.Name "code" p1) (.Name x p2) p3) (envS L a cd)) Q E s := by
  have := C.n
  exact Subscript_ (ldv F mc (ldv F mx (item_list (x := sv ps[i]) (F.lst C.list) (by omega) (by omega) (by rw [Int.toNat_natCast]; simp [hi]) h) rfl hl hd))

theorem sym_list {E : Value → Shared → Prop} {m' : Str → Option Value} {B' : Heap} {x : Str} {p1 p2 p3 p4 : Pos} {i : Nat} {t : Tok} {Q : Value → Shared → Prop} (F : Loc B' L s.heap m') (mx : m' x = some (.int (i : Int) t))
    (h : ∀ h' tk r t', Grown s.heap h' → s.heap.get? r = none → h'.get? r = some (listOf ([(((256 + i : Nat) : Int), t')].map iv).toArray 0) → Q (.ref r) { s with heap := h', toks := tk })
    (hl : (envS L a cd).kindOf x = some .local := by rfl) (hd : (x == ("__debug__" : Str)) = false := by decide) :
    wpAny (model P0 w) A (eval (.List [.BinOp (.Constant (.int 256) 0 p1) .Add (.Name x p2) p3] p4) (envS L a cd)) Q E s := by
  exact list_disp (spl1 (wpAny_BinOp (wpAny_Constant_int (ldv (F := F) mx (wpAny_add_int ⟨by simp, fun h' r k n o => h h' _ r _ k n o⟩) rfl hl hd))))

set_option maxHeartbeats 4000000 in
theorem startIn_exec {k : Nat} {tk0 : Tok} {c : Nat} {Q : Flow → Shared → Prop} (G : Gnd ad mg mb B) (R : Rm A 5) (C : CodeIs B l ps)
    (F : Loc B L s.heap m) (N : News B L s.heap led) (I0 : SInv ad q sn its so B led es) (hb : QB c es) (hc : c ≤ 200000)
    (mc : m "code" = some (.ref l)) (mq : m "queue" = some (.ref q)) (mk : m "k" = some (.int (k : Int) tk0)) (hk : k < ps.length)
    (h : ∀ B' h' tk m' led', Grown B B' → Loc B' L h' m' → News B' L h' led' → (∀ x : Str, x ≠ "m" → m' x = m x) → SInv ad q sn its so B' led' (outA (ps.map (·.1)) es k) → QB (c + 10) (outA (ps.map (·.1)) es k) → Q .next { s with heap := h', toks := tk }) :
    wpAny (model P0 w) A (exec (nthS (forBody (nthS (body 22) 1)) 0) (envS L a cd)) Q NoE s := by
  have hn := C.n
  obtain ⟨eB, hfB⟩ := G.fnOf 20 "_law_begun" (by decide)
  obtain ⟨eW, hfW⟩ := G.fnOf 21 "_law_wait" (by decide)
  refine wpAny_For ?_
  refine Call_Name rfl (ldg F G eB (callFn hfB (spliced_cons (ldv F mc (spliced_cons (code_item F C mc mk hk (spliced_nil (wpAny_evalAll_nil ⟨F.keep, ?_⟩))))))))
  obtain ⟨vs, n, t1, t2, rfl, hnd, hent, hsrt, htb, htw⟩ := I0
  have hkx := C.len _ (List.getElem_mem hk)
  refine begun_do G F N hnd R.low htb C.list (by omega) C.srt (by omega) (fun p hp => by have := C.len p hp; omega) fun B₁ h₁ tk₁ r lo hi u1 u2 u3 t1' g₁ F₁ N₁ htb' hr hbeg => ?_
  have hlh := hbeg.l
  have hhn : hi ≤ ps.length := by simpa using hbeg.h
  refine iter_range (F₁.keep _ _ hr) hbeg.l (by omega) fun h₂ I o k₂ n₂ o₂ hO => ?_
  have F₂ := F₁.grow k₂
  have N₂ := News.join F₁ N₁ k₂ n₂ o₂
  have hout := (fresh_out F₁ N₁ n₂).2
  refine for_it (Iter.range R.handled I (lo : Int) (hi - lo)) (fun _ _ => trivial)
    (fun i B' m' led' => SJ ad q sn its so m "m" ((List.range' lo i).foldl (inA (ps.map (·.1)) k) es) (c + i) B' m' led')
    F₂ N₂ hout hO ⟨⟨vs, n, t1', t2, rfl, nd_ledS hnd, hent.keeps g₁, hsrt, htb', htw.keeps g₁⟩, hb, fun _ _ _ => rfl⟩ ?_ ?_ ?_
  · rintro i v B' h' tk' m' led' o' hi' ⟨t, rfl⟩ g' F' N' hnd' ⟨I', hb', hm'⟩
    have e0 : ((lo : Int) + ((i : Nat) : Int)) = ((lo + i : Nat) : Int) := by omega
    rw [e0]
    have gB : Grown B B' := Grown.trans g₁ g'
    have G' := G.keeps gB
    have C' := C.keeps gB
    have hml : lo + i < ps.length := by omega
    refine wpAny_assign_Name (stv F' N' fun h₃ tk₃ F₃ N₃ => wpAny_execs_cons ?_)
    dsimp only at F₃ N₃ ⊢
    have hm : ∀ x : Str, x ≠ "m" → upd m' "m" (.int ((lo + i : Nat) : Int) t) x = m x := fun x hx => (upd_ne hx).trans (hm' x hx hx)
    refine wpAny_If (wpAny_isTrue_Compare1 (ldv F₃ upd_self (ldv F₃ ((hm _ (by decide)).trans mk) (PyProof.Rows.ne_int (wpAny_truthy_bool ?_)))))
    rw [foldl_range']
    by_cases hmk : lo + i = k
    · rw [if_neg (by simp; omega)]
      refine wpAny_execs_nil (wpAny_execs_nil ?_)
      refine ⟨B', h₃, tk₃, _, led', rfl, fun _ _ e => e, F₃, N₃, hnd', ?_⟩
      rw [inA, if_pos hmk]
      exact ⟨I', hb'.mono (by omega), fun x hx _ => hm x hx⟩
    · rw [if_pos (by simp; omega)]
      refine wpAny_execs_cons (wpAny_Expr_any (Call_Name rfl (ldg F₃ G' eW (callFn (hfW.keeps gB) ?_))))
      refine spliced_cons (ldv F₃ ((hm _ (by decide)).trans mq) (spliced_cons ?_))
      refine Call_Name1 (ldb F₃ G' boot_len (callWith_builtin1 (code_item F₃ C' ((hm _ (by decide)).trans mc) upd_self hml ?_)))
      have hlm := C.len _ (List.getElem_mem hml)
      refine SBL.len (by rw [slen]; omega) ?_
      refine spliced_cons (sub_from (code_item (by exact F₃) C' ((hm _ (by decide)).trans mc) upd_self hml (Call_Name1 (ldb (by exact F₃) G' boot_len (callWith_builtin1 (code_item (by exact F₃) C' ((hm _ (by decide)).trans mc) ((hm _ (by decide)).trans mk) hk ?_))))))
      refine SBL.len (by rw [slen]; omega) ?_
      have hpre : ps[k].1 <+: ps[lo + i].1 := by
        have := (hbeg.iff (lo + i) (by simpa using hml)).mp ⟨by omega, by omega⟩
        simpa [C.wd hk] using this
      refine ⟨ps[lo + i].1, ps[lo + i].2, ps[k].1.length, _, rfl, by rw [slen], hpre.length_le, by omega, fun h₄ t₄ tk₄ k₄ => ?_⟩
      have F₄ := F₃.grow k₄
      have N₄ := News.grow' N₃ k₄
      refine spliced_cons (sym_list F₄ ((hm _ (by decide)).trans mk) fun h₅ tk₅ r₅ t₅ k₅ n₅ o₅ => ?_)
      have F₅ := F₄.grow k₅
      have N₅ := News.grow' N₄ k₅
      refine spliced_cons (sym_list F₅ upd_self fun h₆ tk₆ r₆ t₆ k₆ n₆ o₆ => spliced_nil (wpAny_evalAll_nil ⟨(F₅.grow k₆).keep, ?_⟩))
      have F₆ := F₅.grow k₆
      have N₆ := News.grow' N₅ k₆
      obtain ⟨B₆, g₆, F₆', N₆', hin₆⟩ := rebase F₆ N₆
      have out5 := fresh_out F₄ N₄ n₅
      have out6 := fresh_out F₅ N₅ n₆
      have I6 := (I'.push (o := o') hnd').keeps g₆
      obtain ⟨vs₆, n₆', t1₆, t2₆, eled, hnd₆, hent₆, hsrt₆, htb₆, htw₆⟩ := I6
      rw [eled] at N₆'
      rw [eled] at hnd₆
      have hq := hb'.len
      have hsz : (qA (ps.map (·.1)) k (lo + i)).size = ps[lo + i].1.length := by show (wd _ _).length = _; rw [C.wd hml]
      have hrs : (qA (ps.map (·.1)) k (lo + i)).rest = ps[lo + i].1.drop ps[k].1.length := by show (wd _ _).drop (wd _ _).length = _; rw [C.wd hml, C.wd hk]
      have hW := wait_do (w := w) (A := A) (E := NoE) (s := { s with heap := h₆, toks := tk₆ }) (e := qA (ps.map (·.1)) k (lo + i)) (tz := tk₃ + 1) (tr := t₄) (lb := r₅) (la := r₆) (G'.keeps g₆) F₆' N₆' hnd₆ R.low hent₆ hsrt₆ (by omega) htw₆
        ⟨[(((256 + k : Nat) : Int), t₅)], 0, hin₆ _ _ (k₆ _ _ o₅) out5.1 out5.2, rfl⟩ ⟨[(((256 + (lo + i) : Nat) : Int), t₆)], 0, hin₆ _ _ o₆ out6.1 out6.2, rfl⟩
        (Q := fun _ s₃ => NextIt (upS s) B' L I o' (SJ ad q sn its so m "m" (inA (ps.map (·.1)) k ((List.range' lo i).foldl (inA (ps.map (·.1)) k) es) (lo + i)) (c + (i + 1))) s₃) ?_
      · rw [hsz, hrs] at hW
        refine wpAny_mono ?_ (fun _ _ q => wpAny_execs_nil (wpAny_execs_nil q)) fun _ _ q => q
        rw [slen]
        exact hW
      · intro B₇ h₇ tk₇ vs₇ n₇ t2₇ g₇ F₇ N₇ hent₇ htw₇
        have I7 : SInv ad q sn ((I, o') :: its) so B₇ (ledS ad ((I, o') :: its) q vs₇ n₇ sn so t1₆ t2₇) (waitL ((List.range' lo i).foldl (inA (ps.map (·.1)) k) es) (qA (ps.map (·.1)) k (lo + i))) :=
          ⟨vs₇, n₇, t1₆, t2₇, rfl, nd_ledS hnd₆, hent₇, hsrt₆.wait _, htb₆.keeps g₇, htw₇⟩
        obtain ⟨led₇, eled₇, hnd₇, I7'⟩ := I7.pop
        rw [eled₇] at N₇
        refine ⟨B₇, h₇, tk₇, _, led₇, rfl, Grown.trans g₆ g₇, F₇, N₇, hnd₇, ?_⟩
        rw [inA, if_neg hmk]
        refine ⟨I7', ?_, fun x hx _ => hm x hx⟩
        refine (QB.wait hb' ?_ (by simp [qA]) (by simp [qA])).mono (by omega)
        rw [hrs, List.length_drop]; omega
  · rintro B' h' tk' m' led' g' F' N' ⟨I', hb', hm'⟩
    rw [← begunR_eq hbeg] at I' hb'
    refine h B' h' tk' m' led' (Grown.trans g₁ g') F' N' (fun x hx => hm' x hx hx) ?_ ?_
    · rw [outA, C.wd hk]; exact I'
    · rw [outA, C.wd hk]; exact hb'.mono (by omega)
  · intro i s' v Q' E' o' ho hO' hP hi hq
    exact wpAny_of_eq rfl hq
end
end Mine

namespace Mine
local macro_rules | `(tactic| walk_at "lk") => `(tactic| first | with_reducible assumption | exact upd_self | (refine (upd_ne (by decide)).trans ?_; walk_at "lk") | exact rfl)

section
variable {w : World} {A : Around} {s : Shared} {ad : Nat → Addr} {mg mb : Str → Option Value} {B : Heap} {L a q sn l : Addr} {cd : Value} {m : Str → Option Value} {its : List (Addr × Obj)} {so : Obj} {led : List (Addr × Obj)} {es : List QI} {ps : List WT}

set_option maxHeartbeats 4000000 in
theorem start_exec {Q : Flow → Shared → Prop} (G : Gnd ad mg mb B) (R : Rm A 5) (C : CodeIs B l ps)
    (F : Loc B L s.heap m) (N : News B L s.heap led) (I0 : SInv ad q sn its so B led []) 
    (mc : m "code" = some (.ref l)) (mq : m "queue" = some (.ref q))
    (h : ∀ B' h' tk m' led', Grown B B' → Loc B' L h' m' → News B' L h' led' → (∀ x : Str, x ≠ "m" → x ≠ "k" → m' x = m x) → SInv ad q sn its so B' led' (startL (ps.map (·.1))) → QB 100 (startL (ps.map (·.1))) → Q .next { s with heap := h', toks := tk }) :
    wpAny (model P0 w) A (exec (nthS (body 22) 1) (envS L a cd)) Q NoE s := by
  have hn := C.n
  refine wpAny_For ?_
  refine Call_Name1 (ldb F G boot_range (ct1 (Call_Name1 (ldb F G boot_len (callWith_builtin1 (ldv F mc (len_list (F.lst C.list) (by simp; omega) (PySem.call_range_1 ?_))))))))
  dsimp only
  have esz : (List.map sv ps).toArray.size = ps.length := by simp
  rw [esz]
  have kp := Grown.push s.heap { cls := .type "range", data := .fields #[.int 0 (s.toks + 1 + 1), .int (ps.length : Int) (s.toks + 1), .int 1 (s.toks + 1 + 1 + 1)] }
  refine iter_range (a := 0) (b := ps.length) (IsRange.new ..) (Nat.zero_le _) (by omega) fun h₂ I o k₂ n₂ o₂ hO => ?_
  have F₁ := F.grow kp
  have N₁ := News.grow' N kp
  have F₂ := F₁.grow k₂
  have N₂ := News.join F₁ N₁ k₂ n₂ o₂
  have hout := (fresh_out F₁ N₁ n₂).2
  refine for_it (Iter.range R.handled I ((0 : Nat) : Int) (ps.length - 0)) (fun _ _ => trivial)
    (fun i B' m' led' => SJ ad q sn its so m "k" ((List.range i).foldl (outA (ps.map (·.1))) []) (10 * i) B' m' led')
    F₂ N₂ hout hO ⟨I0, ⟨by simp, fun e he => by simp at he⟩, fun _ _ _ => rfl⟩ ?_ ?_ ?_
  · rintro i v B' h' tk' m' led' o' hi' ⟨t, rfl⟩ g' F' N' hnd' ⟨I', hb', hm'⟩
    have e0 : (((0 : Nat) : Int) + ((i : Nat) : Int)) = (i : Int) := by omega
    rw [e0]
    refine wpAny_assign_Name (stv F' N' fun h₃ tk₃ F₃ N₃ => wpAny_execs_cons ?_)
    dsimp only at F₃ N₃ ⊢
    have hi : i < ps.length := by omega
    refine startIn_exec (c := 10 * i) (k := i) (G.keeps g') R (C.keeps g') F₃ N₃ (I'.push hnd') hb' (by omega) ((upd_ne (by decide)).trans ((hm' _ (by decide) (by decide)).trans mc)) ((upd_ne (by decide)).trans ((hm' _ (by decide) (by decide)).trans mq)) upd_self hi fun B₄ h₄ tk₄ m₄ led₄ g₄ F₄ N₄ hm₄ I4 hb₄ => wpAny_execs_nil ?_
    obtain ⟨led₅, rfl, hnd₅, I5⟩ := I4.pop
    rw [foldl_range]
    exact ⟨B₄, h₄, tk₄, m₄, led₅, rfl, g₄, F₄, N₄, hnd₅, I5, hb₄.mono (by omega), fun x h1 h2 => (hm₄ x h1).trans ((upd_ne h2).trans (hm' x h1 h2))⟩
  · rintro B' h' tk' m' led' g' F' N' ⟨I', hb', hm'⟩
    have e1 : (List.range (ps.length - 0)).foldl (outA (ps.map (·.1))) [] = startL (ps.map (·.1)) := by rw [startL, Nat.sub_zero, List.length_map]
    rw [e1] at I' hb'
    exact h B' h' tk' m' led' g' F' N' hm' I' (hb'.mono (by omega))
  · intro i s' v Q' E' o' ho hO' hP hi hq
    exact wpAny_of_eq rfl hq

theorem row_sym {E : Value → Shared → Prop} {m' : Str → Option Value} {B' : Heap} {x y : Str} {lb : Addr} {p0 p1 p2 p3 p4 p5 : Pos} {i : Nat} {t : Tok} {row : List Nat} {Q : Value → Shared → Prop} (F : Loc B' L s.heap m') (mx : m' x = some (.int (i : Int) t)) (my : m' y = some (.ref lb)) (hr : Row B' lb row) (hz : row.length < 900000)
    (h : ∀ h' tk r rs, Grown s.heap h' → s.heap.get? r = none → h'.get? r = some (listOf (List.map iv rs).toArray 0) → rs.map (·.1) = (row ++ [256 + i]).map Int.ofNat → Q (.ref r) { s with heap := h', toks := tk })
    (hl : (envS L a cd).kindOf x = some .local := by rfl) (hd : (x == ("__debug__" : Str)) = false := by decide) (hl' : (envS L a cd).kindOf y = some .local := by rfl) (hd' : (y == ("__debug__" : Str)) = false := by decide) :
    wpAny (model P0 w) A (eval (.BinOp (.Name y p0) .Add (.List [.BinOp (.Constant (.int 256) 0 p1) .Add (.Name x p2) p3] p4) p5) (envS L a cd)) Q E s := by
  obtain ⟨rs, n, ho, er⟩ := hr
  refine wpAny_BinOp (ldv F my (sym_list F mx (fun h' tk r t' k nr o => ?_) hl hd) rfl hl' hd')
  have hlen : rs.length = row.length := by have := congrArg List.length er; simpa using this
  refine add_lists' (k _ _ (F.keep _ _ ho)) o (by simp; omega) fun h'' r'' k'' n'' o'' => ?_
  refine h h'' tk r'' (rs ++ [(((256 + i : Nat) : Int), t')]) (k.trans k'') ?_ ?_ ?_
  · cases e : s.heap.get? r'' with
    | none => rfl
    | some o => rw [k _ _ e] at n''; cases n''
  · rw [o'', List.map_append]
  · rw [List.map_append, List.map_append, er]; rfl

set_option maxHeartbeats 4000000 in
theorem loopB_exec {c : Nat} {e : QI} {tz tr : Tok} {lb la : Addr} {Q : Flow → Shared → Prop} (G : Gnd ad mg mb B) (R : Rm A 5) (C : CodeIs B l ps)
    (F : Loc B L s.heap m) (N : News B L s.heap led) (I0 : SInv ad q sn its so B led es) (hb : QB c es) (hc : c ≤ 200000)
    (mc : m "code" = some (.ref l)) (mq : m "queue" = some (.ref q)) (mz : m "size" = some (.int (e.size : Int) tz)) (mr : m "rest" = some (.str (S e.rest) tr)) (mb' : m "behind" = some (.ref lb)) (ma : m "ahead" = some (.ref la))
    (hlb : Row B lb e.behind) (hla : Row B la e.ahead) (her : e.rest.length ≤ 100) (heb : e.behind.length ≤ c) (hea : e.ahead.length ≤ c)
    (h : ∀ B' h' tk m' led', Grown B B' → Loc B' L h' m' → News B' L h' led' → (∀ x : Str, x ≠ "m" → m' x = m x) → SInv ad q sn its so B' led' ((begunR (ps.map (·.1)) e.rest).foldl (inB (ps.map (·.1)) e) es) →
      QB (c + 10) ((begunR (ps.map (·.1)) e.rest).foldl (inB (ps.map (·.1)) e) es) → Q .next { s with heap := h', toks := tk }) :
    wpAny (model P0 w) A (exec (nthS (ifBody (nthS (whileBody (nthS (body 22) 2)) 2)) 1) (envS L a cd)) Q NoE s := by
  have hn := C.n
  obtain ⟨eB, hfB⟩ := G.fnOf 20 "_law_begun" (by decide)
  obtain ⟨eW, hfW⟩ := G.fnOf 21 "_law_wait" (by decide)
  refine wpAny_For ?_
  refine Call_Name rfl (ldg F G eB (callFn hfB (spliced_cons (ldv F mc (spliced_cons (ldv F mr (spliced_nil (wpAny_evalAll_nil ⟨F.keep, ?_⟩))))))))
  obtain ⟨vs, n, t1, t2, rfl, hnd, hent, hsrt, htb, htw⟩ := I0
  refine begun_do G F N hnd R.low htb C.list (by omega) C.srt (by omega) (fun p hp => by have := C.len p hp; omega) fun B₁ h₁ tk₁ r lo hi u1 u2 u3 t1' g₁ F₁ N₁ htb' hr hbeg => ?_
  have hlh := hbeg.l
  have hhn : hi ≤ ps.length := by simpa using hbeg.h
  refine iter_range (F₁.keep _ _ hr) hbeg.l (by omega) fun h₂ I o k₂ n₂ o₂ hO => ?_
  have F₂ := F₁.grow k₂
  have N₂ := News.join F₁ N₁ k₂ n₂ o₂
  have hout := (fresh_out F₁ N₁ n₂).2
  refine for_it (Iter.range R.handled I (lo : Int) (hi - lo)) (fun _ _ => trivial)
    (fun i B' m' led' => SJ ad q sn its so m "m" ((List.range' lo i).foldl (inB (ps.map (·.1)) e) es) (c + i) B' m' led')
    F₂ N₂ hout hO ⟨⟨vs, n, t1', t2, rfl, nd_ledS hnd, hent.keeps g₁, hsrt, htb', htw.keeps g₁⟩, hb, fun _ _ _ => rfl⟩ ?_ ?_ ?_
  · rintro i v B' h' tk' m' led' o' hi' ⟨t, rfl⟩ g' F' N' hnd' ⟨I', hb', hm'⟩
    have e0 : ((lo : Int) + ((i : Nat) : Int)) = ((lo + i : Nat) : Int) := by omega
    rw [e0]
    have gB : Grown B B' := Grown.trans g₁ g'
    have G' := G.keeps gB
    have C' := C.keeps gB
    have hml : lo + i < ps.length := by omega
    refine wpAny_assign_Name (stv F' N' fun h₃ tk₃ F₃ N₃ => ?_)
    dsimp only at F₃ N₃ ⊢
    have hm : ∀ x : Str, x ≠ "m" → upd m' "m" (.int ((lo + i : Nat) : Int) t) x = m x := fun x hx => (upd_ne hx).trans (hm' x hx hx)
    rw [foldl_range']
    refine wpAny_execs_cons (wpAny_Expr_any (Call_Name rfl (ldg F₃ G' eW (callFn (hfW.keeps gB) ?_))))
    have hlm := C.len _ (List.getElem_mem hml)
    have hpre : e.rest <+: ps[lo + i].1 := by
      have := (hbeg.iff (lo + i) (by simpa using hml)).mp ⟨by omega, by omega⟩
      simpa using this
    have hple := hpre.length_le
    refine spliced_cons (ldv F₃ ((hm _ (by decide)).trans mq) (spliced_cons ?_))
    refine wpAny_BinOp (wpAny_BinOp (ldv F₃ ((hm _ (by decide)).trans mz) (Call_Name1 (ldb F₃ G' boot_len (callWith_builtin1 (code_item F₃ C' ((hm _ (by decide)).trans mc) upd_self hml ?_))))))
    refine SBL.len (by rw [slen]; omega) (wpAny_add_int ?_)
    refine Call_Name1 (ldb (by exact F₃) G' boot_len (callWith_builtin1 (ldv (by exact F₃) ((hm _ (by decide)).trans mr) (SBL.len (by rw [slen]; omega) (PyProof.Rows.sub_int ?_)))))
    refine spliced_cons (sub_from (code_item (by exact F₃) C' ((hm _ (by decide)).trans mc) upd_self hml (Call_Name1 (ldb (by exact F₃) G' boot_len (callWith_builtin1 (ldv (by exact F₃) ((hm _ (by decide)).trans mr) ?_))))))
    refine SBL.len (by rw [slen]; omega) ?_
    refine ⟨ps[lo + i].1, ps[lo + i].2, e.rest.length, _, rfl, by rw [slen], hple, by omega, fun h₄ t₄ tk₄ k₄ => ?_⟩
    have F₄ := F₃.grow k₄
    have N₄ := News.grow' N₃ k₄
    refine spliced_cons (ldv F₄ ((hm _ (by decide)).trans ma) ?_)
    refine spliced_cons (row_sym F₄ upd_self ((hm _ (by decide)).trans mb') (hlb.keeps gB) (by omega) fun h₆ tk₆ r₆ rs₆ k₆ n₆ o₆ er₆ => spliced_nil (wpAny_evalAll_nil ⟨(F₄.grow k₆).keep, ?_⟩))
    have F₆ := F₄.grow k₆
    have N₆ := News.grow' N₄ k₆
    obtain ⟨B₆, g₆, F₆', N₆', hin₆⟩ := rebase F₆ N₆
    have out6 := fresh_out F₄ N₄ n₆
    have I6 := (I'.push (o := o') hnd').keeps g₆
    obtain ⟨vs₆, n₆', t1₆, t2₆, eled, hnd₆, hent₆, hsrt₆, htb₆, htw₆⟩ := I6
    rw [eled] at N₆'
    rw [eled] at hnd₆
    have hq := hb'.len
    have hsz : ((qB (ps.map (·.1)) e (lo + i)).size : Int) = (e.size : Int) + (ps[lo + i].1.length : Int) - (e.rest.length : Int) := by
      show ((e.size + (wd _ _).length - e.rest.length : Nat) : Int) = _
      rw [C.wd hml]; omega
    have hrs : (qB (ps.map (·.1)) e (lo + i)).rest = ps[lo + i].1.drop e.rest.length := by show (wd _ _).drop _ = _; rw [C.wd hml]
    have hpost : ∀ B'' h' tk vs' n' t2', Grown B₆ B'' → Loc B'' L h' (upd m' "m" (.int ((lo + i : Nat) : Int) t)) → News B'' L h' (ledS ad ((I, o') :: its) q vs' n' sn so t1₆ t2') → EntriesAre B'' vs' (waitL ((List.range' lo i).foldl (inB (ps.map (·.1)) e) es) (qB (ps.map (·.1)) e (lo + i))) → TabOk B'' posW qualW t2' →
        NextIt (upS s) B' L I o' (SJ ad q sn its so m "m" (inB (ps.map (·.1)) e ((List.range' lo i).foldl (inB (ps.map (·.1)) e) es) (lo + i)) (c + (i + 1))) { s with heap := h', toks := tk } := by
      intro B₇ h₇ tk₇ vs₇ n₇ t2₇ g₇ F₇ N₇ hent₇ htw₇
      have I7 : SInv ad q sn ((I, o') :: its) so B₇ (ledS ad ((I, o') :: its) q vs₇ n₇ sn so t1₆ t2₇) (waitL ((List.range' lo i).foldl (inB (ps.map (·.1)) e) es) (qB (ps.map (·.1)) e (lo + i))) :=
        ⟨vs₇, n₇, t1₆, t2₇, rfl, nd_ledS hnd₆, hent₇, hsrt₆.wait _, htb₆.keeps g₇, htw₇⟩
      obtain ⟨led₇, eled₇, hnd₇, I7'⟩ := I7.pop
      rw [eled₇] at N₇
      refine ⟨B₇, h₇, tk₇, _, led₇, rfl, Grown.trans g₆ g₇, F₇, N₇, hnd₇, I7', ?_, fun x hx _ => hm x hx⟩
      refine (QB.wait hb' ?_ (by simp [qB]; omega) (by simp [qB]; omega)).mono (by omega)
      rw [hrs, List.length_drop]; omega
    have hW := fun tz => wait_do (w := w) (A := A) (E := NoE) (s := { s with heap := h₆, toks := tk₆ }) (e := qB (ps.map (·.1)) e (lo + i)) (tz := tz) (tr := t₄) (lb := la) (la := r₆) (G'.keeps g₆) F₆' N₆' hnd₆ R.low hent₆ hsrt₆ (by omega) htw₆
      ((hla.keeps gB).keeps g₆) ⟨rs₆, 0, hin₆ _ _ o₆ out6.1 out6.2, er₆⟩
      (Q := fun _ s₃ => NextIt (upS s) B' L I o' (SJ ad q sn its so m "m" (inB (ps.map (·.1)) e ((List.range' lo i).foldl (inB (ps.map (·.1)) e) es) (lo + i)) (c + (i + 1))) s₃) (hpost)
    simp only [hsz, hrs] at hW
    refine wpAny_mono ?_ (fun _ _ q => wpAny_execs_nil q) fun _ _ q => q
    rw [slen, slen]
    exact hW _
  · rintro B' h' tk' m' led' g' F' N' ⟨I', hb', hm'⟩
    rw [← begunR_eq hbeg] at I' hb'
    exact h B' h' tk' m' led' (Grown.trans g₁ g') F' N' (fun x hx => hm' x hx hx) I' (hb'.mono (by omega))
  · intro i s' v Q' E' o' ho hO' hP hi hq
    exact wpAny_of_eq rfl hq
end
end Mine

namespace Mine
local macro_rules | `(tactic| walk_at "lk") => `(tactic| first | with_reducible assumption | exact upd_self | (refine (upd_ne (by decide)).trans ?_; walk_at "lk") | exact rfl)

theorem Cp.take {x : List Nat} (h : Cp x) (k : Nat) : Cp (x.take k) := fun c hc => h c (List.mem_of_mem_take hc)
theorem bis_cut {ps : List WT} {x : List Nat} {k : Nat} (bb : Bis (fun i => ∃ h : i < ps.length, ps[i].1 < x) 0 ps.length k k) : cutAt (ps.map (·.1)) x = k :=
  countP_cut _ _ _ (by simpa using bb.h) (fun i h q => by
      obtain ⟨_, c⟩ := bb.yes i (Nat.zero_le _) q
      simpa using c) (fun i h q => by
      have h' : i < ps.length := by simpa using h
      have := bb.no i q h'
      simp only [List.getElem_map, decide_eq_false_iff_not]
      exact fun c => this ⟨h', c⟩)

theorem range_it {w : World} {A : Around} {E : Value → Shared → Prop} {s : Shared} {a b : Nat} {t u : Tok} {Q : Value → Shared → Prop} (hab : a ≤ b) (hb : b < 1000000)
    (h : ∀ h' tk I o, Grown s.heap h' → s.heap.get? I = none → h'.get? I = some o → RIt (a : Int) (b - a) 0 o → Q (.ref I) { s with heap := h', toks := tk }) :
    wpAny (model P0 w) A (call (.type "range") [.int (a : Int) t, .int (b : Int) u]) (fun x s₁ => wpAny (model P0 w) A (pyIter x) Q E s₁) E s := by
  refine PySem.call_range_2 (iter_range (IsRange.new ..) hab hb fun h' I o k n ho hO => h h' _ I o (Grown.trans (Grown.push _ _) k) ?_ ho hO)
  cases e : s.heap.get? I with
  | none => rfl
  | some o' => rw [show (_ : Heap).get? I = some o' from Grown.push _ _ _ _ e] at n; cases n

section
variable {w : World} {A : Around} {s : Shared} {ad : Nat → Addr} {mg mb : Str → Option Value} {B : Heap} {L a q sn l : Addr} {cd : Value} {m : Str → Option Value} {its : List (Addr × Obj)} {so : Obj} {led : List (Addr × Obj)} {es : List QI} {ps : List WT}

set_option maxHeartbeats 4000000 in
theorem loopC_exec {c : Nat} {e : QI} {tz tr : Tok} {lb la : Addr} {Q : Flow → Shared → Prop} (G : Gnd ad mg mb B) (R : Rm A 5) (C : CodeIs B l ps)
    (F : Loc B L s.heap m) (N : News B L s.heap led) (I0 : SInv ad q sn its so B led es) (hb : QB c es) (hc : c ≤ 200000)
    (mc : m "code" = some (.ref l)) (mq : m "queue" = some (.ref q)) (mz : m "size" = some (.int (e.size : Int) tz)) (mr : m "rest" = some (.str (S e.rest) tr)) (mb' : m "behind" = some (.ref lb)) (ma : m "ahead" = some (.ref la))
    (hlb : Row B lb e.behind) (hla : Row B la e.ahead) (her : e.rest.length ≤ 100) (her0 : e.rest ≠ []) (hecp : Cp e.rest) (heb : e.behind.length ≤ c) (hea : e.ahead.length ≤ c)
    (h : ∀ B' h' tk m' led', Grown B B' → Loc B' L h' m' → News B' L h' led' → (∀ x : Str, x ≠ "m" → x ≠ "cut" → m' x = m x) → SInv ad q sn its so B' led' ((List.range' 1 (e.rest.length - 1)).foldl (inC (ps.map (·.1)) e) es) →
      QB (c + 100) ((List.range' 1 (e.rest.length - 1)).foldl (inC (ps.map (·.1)) e) es) → Q .next { s with heap := h', toks := tk }) :
    wpAny (model P0 w) A (exec (nthS (ifBody (nthS (whileBody (nthS (body 22) 2)) 2)) 2) (envS L a cd)) Q NoE s := by
  have hn := C.n
  have hr1 : 1 ≤ e.rest.length := List.length_pos_iff.mpr her0
  obtain ⟨eW, hfW⟩ := G.fnOf 21 "_law_wait" (by decide)
  obtain ⟨e3, _, _, hf3, _⟩ := G.bisOf 3 "bisect_left" (by decide)
  refine wpAny_For ?_
  refine Call_Name2 (ldb F G boot_range (PyProof.Rows.callWith_type rfl (Calls.evalArgs_plain (spliced_cons (wpAny_Constant_int (spliced_cons (Call_Name1 (ldb F G boot_len (callWith_builtin1 (ldv F mr (SBL.len (by rw [slen]; omega) (spliced_nil ?_))))))))))))
  rw [slen]
  refine range_it (a := 1) (b := e.rest.length) hr1 (by omega) fun h₂ tk₂ I o k₂ n₂ o₂ hO => ?_
  have F₂ := F.grow k₂
  have N₂ := News.join F N k₂ n₂ o₂
  have hout := (fresh_out F N n₂).2
  refine for_it (Iter.range R.handled I ((1 : Nat) : Int) (e.rest.length - 1)) (fun _ _ => trivial)
    (fun i B' m' led' => SJ ad q sn its so m "cut" ((List.range' 1 i).foldl (inC (ps.map (·.1)) e) es) (c + i) B' m' led')
    F₂ N₂ hout hO ⟨I0, hb, fun _ _ _ => rfl⟩ ?_ ?_ ?_
  · rintro i v B' h' tk' m' led' o' hi' ⟨t, rfl⟩ gB F' N' hnd' ⟨I', hb', hm'⟩
    have e0 : (((1 : Nat) : Int) + ((i : Nat) : Int)) = ((1 + i : Nat) : Int) := by omega
    rw [e0]
    have G' := G.keeps gB
    have C' := C.keeps gB
    refine wpAny_assign_Name (stv F' N' fun h₃ tk₃ F₃ N₃ => ?_)
    dsimp only at F₃ N₃ ⊢
    have hm : ∀ x : Str, x ≠ "m" → x ≠ "cut" → upd m' "cut" (.int ((1 + i : Nat) : Int) t) x = m x := fun x hx hx' => (upd_ne hx').trans (hm' x hx hx')
    rw [foldl_range']
    refine wpAny_execs_cons (wpAny_Assign_Name (Call_Name rfl (ldg F₃ G' e3 (callFn (hf3.keeps gB) ?_))))
    refine spliced_cons (ldv F₃ ((hm _ (by decide) (by decide)).trans mc) (spliced_cons (sub_to (ldv F₃ ((hm _ (by decide) (by decide)).trans mr) (ldv F₃ upd_self ?_)))))
    refine ⟨e.rest, tr, 1 + i, _, rfl, rfl, by omega, fun h₄ t₄ tk₄ k₄ => ?_⟩
    have F₄ := F₃.grow k₄
    have N₄ := News.grow' N₃ k₄
    refine spliced_nil (wpAny_evalAll_nil ⟨F₄.keep, ?_⟩)
    refine bl_call (G'.keeps F₄.keep) R.d (F₄.lst C'.list) (by omega) (C.srt.monoL _) fun h₅ tk₅ t₅ k k₅ bb => ?_
    have F₅ := F₄.grow k₅
    have N₅ := News.grow' N₄ k₅
    have hkn : k ≤ ps.length := bb.h
    have hcut := bis_cut bb
    refine stv F₅ N₅ fun h₆ tk₆ F₆ N₆ => ?_
    dsimp only at F₆ N₆ ⊢
    have hm6 : ∀ x : Str, x ≠ "m" → x ≠ "cut" → upd (upd m' "cut" (.int ((1 + i : Nat) : Int) t)) "m" (.int (k : Int) t₅) x = m x := fun x hx hx' => (upd_ne hx).trans (hm x hx hx')
    refine wpAny_execs_cons (wpAny_If (wpAny_isTrue_Compare1 (sub_list ?_)))
    refine ldv F₆ ((hm6 _ (by decide) (by decide)).trans mc) (ldv F₆ upd_self (wpAny_BinOp (ldv F₆ upd_self (wpAny_Constant_int (wpAny_add_int ?_)))))
    refine ⟨l, ps.map sv, some (k : Int), some ((k : Int) + 1), rfl, (F₆.lst C'.list), by simp; omega, .int _ _, .int _ _, fun h₇ r₇ k₇ n₇ o₇ => ?_⟩
    have F₇ := F₆.grow k₇
    have N₇ := News.grow' N₆ k₇
    refine list_disp (spl1 (sub_to (ldv F₇ ((hm6 _ (by decide) (by decide)).trans mr) (ldv F₇ ((upd_ne (by decide)).trans upd_self) ?_))))
    refine ⟨e.rest, tr, 1 + i, _, rfl, rfl, by omega, fun h₈ t₈ tk₈ k₈ => ?_⟩
    have F₈ := F₇.grow k₈
    have N₈ := News.grow' N₇ k₈
    refine ⟨by simp, fun h₉ r₉ k₉ n₉ o₉ => ?_⟩
    have F₉ := F₈.grow k₉
    have N₉ := News.grow' N₈ k₉
    have e₇ : slicePick (ps.map sv).toArray (some (k : Int)) (some ((k : Int) + 1)) none = (((ps.drop k).take 1).map sv).toArray := by
      rw [slice_one, List.map_take, List.map_drop]
    rw [e₇] at o₇
    refine eq_strs (ps := (ps.drop k).take 1) (qs := [(e.rest.take (1 + i), t₈)]) ⟨_, k₉ _ _ (k₈ _ _ o₇), rfl, _, rfl⟩ ⟨_, o₉, rfl, _, rfl⟩ (fun p hp => C.cps p (List.mem_of_mem_drop (List.mem_of_mem_take hp))) (fun p hp => by simp at hp; subst hp; exact hecp.take _) R.u (wpAny_truthy_bool ?_)
    have eC : decide (((ps.drop k).take 1).map (·.1) = [(e.rest.take (1 + i), t₈)].map (·.1)) = decide (((ps.map (·.1)).drop (cutAt (ps.map (·.1)) (e.rest.take (1 + i)))).take 1 = [e.rest.take (1 + i)]) := by
      rw [hcut, List.map_take, List.map_drop]; rfl
    rw [eC]
    by_cases hin : ((ps.map (·.1)).drop (cutAt (ps.map (·.1)) (e.rest.take (1 + i)))).take 1 = [e.rest.take (1 + i)]
    · rw [if_pos (by simpa using hin)]
      refine wpAny_execs_cons (wpAny_Expr_any (Call_Name rfl (ldg F₉ G' eW (callFn (hfW.keeps gB) ?_))))
      refine spliced_cons (ldv F₉ ((hm6 _ (by decide) (by decide)).trans mq) (spliced_cons (ldv F₉ ((hm6 _ (by decide) (by decide)).trans mz) (spliced_cons (sub_from (ldv F₉ ((hm6 _ (by decide) (by decide)).trans mr) (ldv F₉ ((upd_ne (by decide)).trans upd_self) ?_)))))))
      refine ⟨e.rest, tr, 1 + i, _, rfl, rfl, by omega, by omega, fun h₁₀ t₁₀ tk₁₀ k₁₀ => ?_⟩
      have F₁₀ := F₉.grow k₁₀
      have N₁₀ := News.grow' N₉ k₁₀
      refine spliced_cons (row_sym F₁₀ upd_self ((hm6 _ (by decide) (by decide)).trans mb') (hlb.keeps gB) (by omega) fun h₁₁ tk₁₁ r₁₁ rs₁₁ k₁₁ n₁₁ o₁₁ er₁₁ => ?_)
      have F₁₁ := F₁₀.grow k₁₁
      have N₁₁ := News.grow' N₁₀ k₁₁
      refine spliced_cons (ldv F₁₁ ((hm6 _ (by decide) (by decide)).trans ma) (spliced_nil (wpAny_evalAll_nil ⟨F₁₁.keep, ?_⟩)))
      obtain ⟨B₆, g₆, F₆', N₆', hin₆⟩ := rebase F₁₁ N₁₁
      have out6 := fresh_out F₁₀ N₁₀ n₁₁
      have I6 := (I'.push (o := o') hnd').keeps g₆
      obtain ⟨vs₆, n₆', t1₆, t2₆, eled, hnd₆, hent₆, hsrt₆, htb₆, htw₆⟩ := I6
      rw [eled] at N₆'
      rw [eled] at hnd₆
      have hq := hb'.len
      have hrs : (qC (ps.map (·.1)) e (1 + i)).behind = e.behind ++ [256 + k] := by show e.behind ++ [256 + cutAt _ _] = _; rw [hcut]
      refine wpAny_mono (wait_do (w := w) (A := A) (E := NoE) (s := { s with heap := h₁₁, toks := tk₁₁ }) (e := qC (ps.map (·.1)) e (1 + i)) (tz := tz) (tr := t₁₀) (lb := r₁₁) (la := la) (G'.keeps g₆) F₆' N₆' hnd₆ R.low hent₆ hsrt₆ (by omega) htw₆
        ⟨rs₁₁, 0, hin₆ _ _ o₁₁ out6.1 out6.2, by rw [hrs]; exact er₁₁⟩ ((hla.keeps gB).keeps g₆)
        (Q := fun _ s₃ => NextIt (upS s) B' L I o' (SJ ad q sn its so m "cut" (inC (ps.map (·.1)) e ((List.range' 1 i).foldl (inC (ps.map (·.1)) e) es) (1 + i)) (c + (i + 1))) s₃) ?_) (fun _ _ q => wpAny_execs_nil (wpAny_execs_nil q)) fun _ _ q => q
      intro B₇ h₇ tk₇ vs₇ n₇ t2₇ g₇ F₇ N₇ hent₇ htw₇
      have I7 : SInv ad q sn ((I, o') :: its) so B₇ (ledS ad ((I, o') :: its) q vs₇ n₇ sn so t1₆ t2₇) (waitL ((List.range' 1 i).foldl (inC (ps.map (·.1)) e) es) (qC (ps.map (·.1)) e (1 + i))) :=
        ⟨vs₇, n₇, t1₆, t2₇, rfl, nd_ledS hnd₆, hent₇, hsrt₆.wait _, htb₆.keeps g₇, htw₇⟩
      obtain ⟨led₇, eled₇, hnd₇, I7'⟩ := I7.pop
      rw [eled₇] at N₇
      refine ⟨B₇, h₇, tk₇, _, led₇, rfl, Grown.trans g₆ g₇, F₇, N₇, hnd₇, ?_⟩
      rw [inC, if_pos hin]
      refine ⟨I7', ?_, hm6⟩
      refine (QB.wait hb' ?_ (by rw [hrs]; simp; omega) (by show e.ahead.length ≤ _; omega)).mono (by omega)
      show (e.rest.drop _).length ≤ 100
      rw [List.length_drop]; omega
    · rw [if_neg (by simpa using hin)]
      refine wpAny_execs_nil (wpAny_execs_nil ?_)
      refine ⟨B', h₉, _, _, led', rfl, fun _ _ e => e, F₉, N₉, hnd', ?_⟩
      rw [inC, if_neg hin]
      exact ⟨I', hb'.mono (by omega), hm6⟩
  · rintro B' h' tk' m' led' g' F' N' ⟨I', hb', hm'⟩
    exact h B' h' tk' m' led' g' F' N' hm' I' (hb'.mono (by omega))
  · intro i s' v Q' E' o' ho hO' hP hi hq
    exact wpAny_of_eq rfl hq
end
end Mine

namespace Mine
local macro_rules | `(tactic| walk_at "lk") => `(tactic| first | with_reducible assumption | exact upd_self | (refine (upd_ne (by decide)).trans ?_; walk_at "lk") | exact rfl)

theorem strsAre_sv : ∀ ss : List WT, StrsAre (ss.map sv) (ss.map fun p => S p.1)
  | [] => .nil
  | _ :: r => .cons _ _ (strsAre_sv r)
theorem any_S (ss : List WT) (x : List Nat) : (ss.map fun p => S p.1).any (· == S x) = decide (x ∈ ss.map (·.1)) := by
  rw [Bool.eq_iff_iff, List.any_eq_true, decide_eq_true_eq]
  constructor
  · rintro ⟨y, hy, e⟩
    obtain ⟨p, hp, rfl⟩ := List.mem_map.mp hy
    have : S p.1 = S x := by simpa using e
    rw [S_inj] at this
    exact this ▸ List.mem_map_of_mem hp
  · intro hx
    obtain ⟨p, hp, rfl⟩ := List.mem_map.mp hx
    exact ⟨S p.1, List.mem_map_of_mem hp, by simp⟩

theorem unpack4 {w : World} {A : Around} {E : Value → Shared → Prop} {s : Shared} {env : Env} {x1 x2 x3 x4 : Str} {p1 p2 p3 p4 tp : Pos} {k : Nat} {T : Addr} {v1 v2 v3 v4 : Value} {Q : Unit → Shared → Prop} (hh : A.handled = none) (hT : s.heap.get? T = some (tupOf #[v1, v2, v3, v4]))
    (h : ∀ h', Grown s.heap h' → wpAny (model P0 w) A (storeName env x1 v1) (fun _ s₁ => wpAny (model P0 w) A (storeName env x2 v2) (fun _ s₂ => wpAny (model P0 w) A (storeName env x3 v3) (fun _ s₃ => wpAny (model P0 w) A (storeName env x4 v4) Q E s₃) E s₂) E s₁) E { s with heap := h' }) :
    wpAny (model P0 w) A (assign (.Tuple [.Name x1 p1, .Name x2 p2, .Name x3 p3, .Name x4 p4] k tp) env (.ref T)) Q E s := by
  refine assign_Tuple_tuple hh ⟨_, hT, rfl, _, rfl⟩ rfl rfl fun h' e' => ?_
  refine assignInOrder_cons (wpAny_assign_Name (wpAny_mono (h h' (grown_ext e')) (fun _ s₁ h₁ => assignInOrder_cons (wpAny_assign_Name (wpAny_mono h₁ (fun _ s₂ h₂ => assignInOrder_cons (wpAny_assign_Name (wpAny_mono h₂ (fun _ s₃ h₃ =>
    assignInOrder_cons (wpAny_assign_Name (wpAny_mono h₃ (fun _ s₄ h₄ => assignInOrder_nil h₄) fun _ _ e => e))) fun _ _ e => e))) fun _ _ e => e))) fun _ _ e => e))

theorem step_bound {ws : List (List Nat)} {e : QI} {q : List QI} (hcp : ∀ x ∈ ws, Cp x) (he : Cp e.rest) (hq : ∀ o ∈ q, Cp o.rest) : ∀ o ∈ stepL ws e q, Cp o.rest := by
  have hwd : ∀ i, Cp (wd ws i) := fun i => by
    unfold wd
    rw [List.getD_eq_getElem?_getD]
    cases hi : ws[i]? with
    | none => intro c hc; simp at hc
    | some x => exact hcp x (List.mem_of_getElem? hi)
  have hB : ∀ (l : List Nat) (q : List QI), (∀ o ∈ q, Cp o.rest) → ∀ o ∈ l.foldl (inB ws e) q, Cp o.rest := by
    intro l
    induction l with
    | nil => intro q hq; exact hq
    | cons a r ih =>
      intro q hq
      refine ih _ fun o ho => ?_
      rcases mem_waitL ho with ho | rfl
      · exact hq o ho
      · exact (hwd a).drop _
  have hC : ∀ (l : List Nat) (q : List QI), (∀ o ∈ q, Cp o.rest) → ∀ o ∈ l.foldl (inC ws e) q, Cp o.rest := by
    intro l
    induction l with
    | nil => intro q hq; exact hq
    | cons a r ih =>
      intro q hq
      refine ih _ fun o ho => ?_
      unfold inC at ho
      split at ho
      · rcases mem_waitL ho with ho | rfl
        · exact hq o ho
        · exact he.drop _
      · exact hq o ho
  exact hC _ _ (hB _ _ hq)
theorem start_bound {ws : List (List Nat)} (hcp : ∀ x ∈ ws, Cp x) : ∀ o ∈ startL ws, Cp o.rest := by
  have hwd : ∀ i, Cp (wd ws i) := fun i => by
    unfold wd
    rw [List.getD_eq_getElem?_getD]
    cases hi : ws[i]? with
    | none => intro c hc; simp at hc
    | some x => exact hcp x (List.mem_of_getElem? hi)
  have hA : ∀ (k : Nat) (l : List Nat) (q : List QI), (∀ o ∈ q, Cp o.rest) → ∀ o ∈ l.foldl (inA ws k) q, Cp o.rest := by
    intro k l
    induction l with
    | nil => intro q hq; exact hq
    | cons a r ih =>
      intro q hq
      refine ih _ fun o ho => ?_
      unfold inA at ho
      split at ho
      · exact hq o ho
      · rcases mem_waitL ho with ho | rfl
        · exact hq o ho
        · exact (hwd a).drop _
  have hO : ∀ (l : List Nat) (q : List QI), (∀ o ∈ q, Cp o.rest) → ∀ o ∈ l.foldl (outA ws) q, Cp o.rest := by
    intro l
    induction l with
    | nil => intro q hq; exact hq
    | cons a r ih =>
      intro q hq
      exact ih _ (hA a _ q hq)
  exact hO _ [] (fun o ho => by simp at ho)

theorem eq_nil_eq (x : List Nat) : (S x == (Str.ofString "")) = decide (x = []) := by
  have : (Str.ofString "") = S [] := by decide +kernel
  rw [this]
  rw [Bool.eq_iff_iff, beq_iff_eq, decide_eq_true_eq, S_inj]

inductive ShW (ad : Nat → Addr) (s : Shared) (B0 : Heap) (q sn l : Addr) (ps : List WT) (res : QI) (n : Nat) (s' : Shared) : Prop
  | mk : ∀ B' h' tk m' led es c ss kk, s' = { s with heap := h', toks := tk } → Grown B0 B' → Loc B' s.heap.objs.size h' m' → News B' s.heap.objs.size h' led → SInv ad q sn [] (listOf (List.map sv ss).toArray kk) B' led es → QB c es → c + 110 * n ≤ 110100 → n ≤ 1000 → ss.length + n ≤ 1000 → (∀ o ∈ es, Cp o.rest) → m' "code" = some (.ref l) → m' "queue" = some (.ref q) → m' "seen" = some (.ref sn) → shortL (ps.map (·.1)) n es (ss.map (·.1)) = some res → ShW ad s B0 q sn l ps res n s'

set_option maxHeartbeats 4000000 in
theorem shortest_call {w : World} {A : Around} {E : Value → Shared → Prop} {s : Shared} {B : Heap} {l : Addr} {ad : Nat → Addr} {mg mb : Str → Option Value} {ps : List WT} {t1 t2 : Array Value} {fuel : Nat} {res : QI} {Q : Value → Shared → Prop}
    (G : Gnd ad mg mb B) (hB : Grown B s.heap) (h1B : B.get? (ad 120) = none) (h2B : B.get? (ad 121) = none) (h12 : ad 120 ≠ ad 121) (R : Rm A 6) (o1 : s.heap.get? (ad 120) = some (tabObj t1)) (o2 : s.heap.get? (ad 121) = some (tabObj t2))
    (hok1 : TabOk B posB qualB t1) (hok2 : TabOk B posW qualW t2) (C : CodeIs B l ps) (hfuel : fuel ≤ 1000) (hres : shortL (ps.map (·.1)) fuel (startL (ps.map (·.1))) [] = some res)
    (h : ∀ h' tk r t lb la t1' t2', (∀ b o, b ≠ ad 120 → b ≠ ad 121 → s.heap.get? b = some o → h'.get? b = some o) → h'.get? (ad 120) = some (tabObj t1') → h'.get? (ad 121) = some (tabObj t2') → h'.get? r = some (tupOf #[.int (res.size : Int) t, .ref lb, .ref la]) →
      Row h' lb res.behind → Row h' la res.ahead → Q (.ref r) { s with heap := h', toks := tk }) :
    wpAny (model P0 w) A (call (.ref (ad 22)) [.ref l] []) Q E s := by
  obtain ⟨_, hf⟩ := G.fnOf 22 "_law_shortest" (by decide)
  refine enter (binds := [("code", .ref l)]) (hf.keeps hB) (G.nolimit.keeps hB) R.d (fun _ _ _ => BindsTo.of_eq rfl) fun h₁ cd hns hk => ?_
  replace R := R.deep (envOf "_law_shortest" (sco 22) s.heap.objs.size (ad 22) cd)
  have hB1 : Grown B (hideL s.heap [ad 120, ad 121]) := fun b o e => by
    rw [hideL_out _ _ _ fun q => ?_]
    · exact hB b o e
    · simp only [List.mem_cons, List.not_mem_nil, or_false] at q
      rcases q with rfl | rfl
      · rw [h1B] at e; cases e
      · rw [h2B] at e; cases e
  have hsB : ∀ b o, b ≠ ad 120 → b ≠ ad 121 → s.heap.get? b = some o → (hideL s.heap [ad 120, ad 121]).get? b = some o := fun b o n1 n2 e => by
    rw [hideL_out _ _ _ fun q => ?_]
    · exact e
    · simp only [List.mem_cons, List.not_mem_nil, or_false] at q
      rcases q with q | q
      · exact n1 q
      · exact n2 q
  have F : Loc (hideL s.heap [ad 120, ad 121]) s.heap.objs.size h₁ _ := ⟨hns, fun b o e => hk b o (hideL_of _ _ _ _ e), by
    cases e : (hideL s.heap [ad 120, ad 121]).get? s.heap.objs.size with
    | none => rfl
    | some o => exact absurd (Heap.lt_size (hideL_of _ _ _ _ e)) (Nat.lt_irrefl _)⟩
  have N : News (hideL s.heap [ad 120, ad 121]) s.heap.objs.size h₁ [(ad 120, tabObj t1), (ad 121, tabObj t2)] := by
    intro p hp
    simp only [List.mem_cons, List.not_mem_nil, or_false] at hp
    rcases hp with rfl | rfl
    · exact ⟨hk _ _ o1, Nat.ne_of_lt (Heap.lt_size o1), hideL_in _ _ _ (.head _)⟩
    · exact ⟨hk _ _ o2, Nat.ne_of_lt (Heap.lt_size o2), hideL_in _ _ _ (.tail _ (.head _))⟩
  generalize eB0 : hideL s.heap [ad 120, ad 121] = B0 at hB1 F N hsB
  have G0 := G.keeps hB1
  have C0 := C.keeps hB1
  refine wpAny_execs_cons (asg2 R.handled (spl2 (list_disp (spliced_nil ⟨by simp, fun h₂ q k₂ n₂ o₂ => list_disp (spliced_nil ⟨by simp, fun h₃ sn k₃ n₃ o₃ => ⟨_, _, rfl, fun h₄ k₄ => ?_⟩⟩)⟩))))
  have F₂ := F.grow k₂
  have N₂ := News.join F N k₂ n₂ o₂
  have F₃ := F₂.grow k₃
  have N₃ := News.join F₂ N₂ k₃ n₃ o₃
  have out2 := (fresh_out F N n₂).2
  have out3 := (fresh_out F₂ N₂ n₃).2
  have F₄ := F₃.grow k₄
  have N₄ : News B0 s.heap.objs.size h₄ (ledS ad [] q [] 0 sn (listOf #[] 0) t1 t2) := fun p hp => News.grow' N₃ k₄ p (by
    simp only [ledS, List.nil_append, List.mem_cons, List.not_mem_nil, or_false] at hp ⊢
    rcases hp with h | h | h | h
    · exact .inr (.inl h)
    · exact .inl h
    · exact .inr (.inr (.inl h))
    · exact .inr (.inr (.inr h)))
  have hnd : ((ledS ad [] q [] 0 sn (listOf #[] 0) t1 t2).map (·.1)).Nodup := by
    have a1 : ad 120 ≠ q := out2 _ (.head _)
    have a2 : ad 121 ≠ q := out2 _ (.tail _ (.head _))
    have a3 : q ≠ sn := out3 _ (.head _)
    have a4 : ad 120 ≠ sn := out3 _ (.tail _ (.head _))
    have a5 : ad 121 ≠ sn := out3 _ (.tail _ (.tail _ (.head _)))
    simp [ledS, a3, a1.symm, a2.symm, a4.symm, a5.symm, h12]
  refine stv F₄ N₄ fun h₅ _ F₅ N₅ => stv F₅ N₅ fun h₆ tk₆ F₆ N₆ => wpAny_execs_cons ?_
  dsimp only at F₆ N₆ ⊢
  refine start_exec G0 R C0 F₆ N₆ ⟨[], 0, t1, t2, rfl, hnd, ⟨rfl, fun i h1 => by simp at h1⟩, List.Pairwise.nil, hok1.keeps hB1, hok2.keeps hB1⟩ (by walk_at "lk") (by walk_at "lk") fun B₇ h₇ tk₇ m₇ led₇ g₇ F₇ N₇ hm₇ I7 hb₇ => wpAny_execs_cons ?_
  have hcpw : ∀ x ∈ ps.map (·.1), Cp x := fun x hx => by
    obtain ⟨p, hp, rfl⟩ := List.mem_map.mp hx
    exact C.cps p hp
  refine while_gen (fun n s' => ShW ad s B0 q sn l ps res n s')
    (n := fuel) ⟨B₇, h₇, tk₇, m₇, led₇, _, 100, [], 0, rfl, g₇, F₇, N₇, I7, hb₇, by omega, hfuel, by simpa using hfuel, start_bound hcpw, (hm₇ _ (by decide) (by decide)).trans (by walk_at "lk"), (hm₇ _ (by decide) (by decide)).trans (by walk_at "lk"), (hm₇ _ (by decide) (by decide)).trans (by walk_at "lk"), hres⟩ ?_
  rintro n s' ⟨B', h', tk, m', led, es, c, ss, kk, rfl, g', F', N', I', hb', hc', hn', hss, hecp, mc, mq, ms, hsh⟩
  obtain ⟨vs, nq, t1', t2', rfl, hnd', hent, hsrt, htb, htw⟩ := I'
  have G' := G0.keeps g'
  have C' := C0.keeps g'
  have hvl := hent.1
  have hel := hb'.len
  refine isTrue_val (ldv F' mq (wpAny_truthy_list ⟨_, N'.get (.head _), rfl, _, rfl⟩ (by simp; omega) ?_)) rfl
  cases n with
  | zero => cases hsh
  | succ n =>
  cases es with
  | nil =>
    have hv : vs = [] := List.length_eq_zero_iff.mp (by simpa using hvl)
    subst hv
    rw [if_neg (by simp)]
    rw [shortL] at hsh
    have hres' : res = ⟨0, [], [], []⟩ := (Option.some.inj hsh).symm
    subst hres'
    refine wpAny_execs_cons (wpAny_Return_some (tup_disp (spl3 (wpAny_Constant_int (list_disp (spliced_nil ⟨by simp, fun h₈ r₈ k₈ n₈ o₈ => list_disp (spliced_nil ⟨by simp, fun h₉ r₉ k₉ n₉ o₉ => ⟨by simp, fun h₁₀ r₁₀ k₁₀ n₁₀ o₁₀ => ?_⟩⟩)⟩))))))
    have g10 : Grown h' h₁₀ := Grown.trans k₈ (Grown.trans k₉ k₁₀)
    exact h h₁₀ _ r₁₀ _ r₈ r₉ t1' t2' (fun b o n1 n2 e => g10 _ _ (F'.keep _ _ (g' _ _ (hsB b o n1 n2 e)))) (g10 _ _ (N'.get (.tail _ (.tail _ (.head _))))) (g10 _ _ (N'.get (.tail _ (.tail _ (.tail _ (.head _)))))) o₁₀
      ⟨[], 0, k₁₀ _ _ (k₉ _ _ o₈), rfl⟩ ⟨[], 0, k₁₀ _ _ o₉, rfl⟩
  | cons e es =>
    match vs, hvl, hent, N', hnd' with
    | v :: vs, hvl, hent, N', hnd' =>
    rw [if_pos (by simp)]
    obtain ⟨⟨T, tz, tr, lb, la, rfl, oT, hlb, hla⟩, hent'⟩ := hent.tail
    obtain ⟨her, heb, hea⟩ := hb'.ent e (.head _)
    have hb2 : QB c es := ⟨by have := hb'.len; simp at this; omega, fun o ho => hb'.ent o (.tail _ ho)⟩
    have hsrt' : SrtQ es := (List.pairwise_cons.mp hsrt).2
    refine wpAny_execs_cons (Assign_Tuple (MethodCall_ (ldv (by exact F') mq (lmeth (N'.get (.head _)) PySem.F.slot_list_pop PySem.F.type_list_pop ?_))))
    refine Calls.callWith_builtin rfl (Calls.evalArgs_plain (spliced_cons (wpAny_Constant_int (pos := ⟨109, 46, 109, 47⟩) (k := 0) (spliced_nil ?_))))
    refine popAt_of (p := []) (q := vs) (N'.get (.head _)) rfl (by simp at hvl hel ⊢; omega) fun h₈ s₈ o₈ => ?_
    have hq8 := N' _ (.head _)
    have F₈ := (show Loc B' s.heap.objs.size h' m' from F').change s₈ hq8.2.1 hq8.2.2
    have hnd8 := hnd'
    rw [ledS, List.nil_append, List.map_cons, List.nodup_cons] at hnd8
    have N₈ : News B' s.heap.objs.size h₈ (ledS ad [] q vs (nq + 1) sn (listOf (List.map sv ss).toArray kk) t1' t2') := News.turn (pre := []) N' s₈ o₈ (fun p hp => noMem hp) fun p hp e => hnd8.1 (List.mem_map.mpr ⟨p, hp, e⟩)
    refine unpack4 R.handled (F₈.keep _ _ oT) fun h₉ k₉ => ?_
    have F₉ := F₈.grow k₉
    have N₉ := News.grow' N₈ k₉
    refine stv F₉ N₉ fun h₁₀ tk₁₀ F₁₀ N₁₀ => stv F₁₀ N₁₀ fun h₁₁ tk₁₁ F₁₁ N₁₁ => stv F₁₁ N₁₁ fun h₁₂ tk₁₂ F₁₂ N₁₂ => stv F₁₂ N₁₂ fun h₁₃ tk₁₃ F₁₃ N₁₃ => ?_
    dsimp only at F₁₃ N₁₃ ⊢
    refine wpAny_execs_cons (wpAny_If (wpAny_isTrue_Compare1 (ldv F₁₃ (by walk_at "lk") (wpAny_Constant_str (PyProof.Rows.eq_str (wpAny_truthy_bool ?_))))))
    rw [eq_nil_eq]
    rw [shortL] at hsh
    by_cases hr0 : e.rest = []
    · rw [if_pos (by simpa using hr0)]
      rw [if_pos hr0] at hsh
      have hres' : e = res := Option.some.inj hsh
      subst hres'
      refine wpAny_execs_cons (wpAny_Return_some (tup_disp (spl3 (ldv F₁₃ (by walk_at "lk") (ldv F₁₃ (by walk_at "lk") (ldv F₁₃ (by walk_at "lk") ⟨by simp, fun h₁₄ r₁₄ k₁₄ n₁₄ o₁₄ => ?_⟩))))))
      have g14 : Grown B' h₁₄ := Grown.trans F₁₃.keep k₁₄
      exact h h₁₄ _ r₁₄ _ lb la t1' t2' (fun b o n1 n2 e => g14 _ _ (g' _ _ (hsB b o n1 n2 e))) (k₁₄ _ _ (N₁₃.get (.tail _ (.tail _ (.head _))))) (k₁₄ _ _ (N₁₃.get (.tail _ (.tail _ (.tail _ (.head _)))))) o₁₄ (hlb.keeps g14) (hla.keeps g14)
    · rw [if_neg (by simpa using hr0)]
      rw [if_neg hr0] at hsh
      refine wpAny_execs_nil (wpAny_execs_cons (wpAny_If (wpAny_isTrue_Compare1 (ldv F₁₃ (by walk_at "lk") (ldv F₁₃ (by walk_at "lk") (notin_list_strs ⟨_, N₁₃.get (.tail _ (.head _)), rfl, _, rfl⟩ (strsAre_sv ss) (wpAny_truthy_bool ?_)))))))
      rw [any_S]
      by_cases hin : e.rest ∈ ss.map (·.1)
      · rw [if_neg (by simpa using hin)]
        rw [if_pos hin] at hsh
        refine wpAny_execs_nil (wpAny_execs_nil ?_)
        exact ⟨n, Nat.lt_succ_self _, B', h₁₃, _, _, _, es, c, ss, kk, rfl, g', F₁₃, N₁₃, ⟨vs, nq + 1, t1', t2', rfl, nd_ledS hnd', hent', hsrt', htb, htw⟩, hb2, by omega, by omega, by omega, fun o ho => hecp o (.tail _ ho), by walk_at "lk", by walk_at "lk", by walk_at "lk", hsh⟩
      · rw [if_pos (by simpa using hin)]
        rw [if_neg hin] at hsh
        refine wpAny_execs_cons (wpAny_Expr_any (MethodCall_ (ldv F₁₃ (by walk_at "lk") (lmeth (N₁₃.get (.tail _ (.head _))) PySem.F.slot_list_append PySem.F.type_list_append ?_))))
        refine Calls.callWith_builtin rfl (Calls.evalArgs_plain (spliced_cons (ldv F₁₃ (by walk_at "lk") (spliced_nil ?_))))
        refine append_to (N₁₃.get (.tail _ (.head _))) (line_ok (by simp; omega)) fun h₁₄ s₁₄ o₁₄ => ?_
        have hs14 := N₁₃ _ (.tail _ (.head _))
        have F₁₄ := F₁₃.change s₁₄ hs14.2.1 hs14.2.2
        have hnd14 := hnd'
        simp only [ledS, List.nil_append, List.map_cons, List.map_nil, List.nodup_cons, List.mem_cons, List.not_mem_nil, or_false, not_or] at hnd14
        obtain ⟨⟨nqs, nq1, nq2⟩, ⟨ns1, ns2⟩, n12, _⟩ := hnd14
        have N₁₄ : News B' s.heap.objs.size h₁₄ (ledS ad [] q vs (nq + 1) sn (listOf (List.map sv (ss ++ [(e.rest, tr)])).toArray (kk + 1)) t1' t2') := by
          rw [List.map_append]
          exact News.turn (pre := [(q, listOf vs.toArray (nq + 1))]) N₁₃ s₁₄ o₁₄ (fun p hp => by simp only [List.mem_singleton] at hp; subst hp; exact nqs) (fun p hp => by
            simp only [List.mem_cons, List.not_mem_nil, or_false] at hp
            rcases hp with rfl | rfl
            · exact fun c => ns1 c.symm
            · exact fun c => ns2 c.symm)
        refine wpAny_execs_cons ?_
        refine loopB_exec (e := e) (c := c) (es := es) G' R C' F₁₄ N₁₄ ⟨vs, nq + 1, t1', t2', rfl, nd_ledS hnd', hent', hsrt', htb, htw⟩ hb2 (by omega) (by walk_at "lk") (by walk_at "lk") (by walk_at "lk") (by walk_at "lk") (by walk_at "lk") (by walk_at "lk") hlb hla her heb hea
          fun B₁₅ h₁₅ tk₁₅ m₁₅ led₁₅ g₁₅ F₁₅ N₁₅ hm₁₅ I15 hb₁₅ => wpAny_execs_cons ?_
        refine loopC_exec (e := e) (c := c + 10) (G'.keeps g₁₅) R (C'.keeps g₁₅) F₁₅ N₁₅ I15 hb₁₅ (by omega) ((hm₁₅ _ (by decide)).trans (by walk_at "lk")) ((hm₁₅ _ (by decide)).trans (by walk_at "lk")) ((hm₁₅ _ (by decide)).trans (by walk_at "lk")) ((hm₁₅ _ (by decide)).trans (by walk_at "lk")) ((hm₁₅ _ (by decide)).trans (by walk_at "lk")) ((hm₁₅ _ (by decide)).trans (by walk_at "lk")) (hlb.keeps g₁₅) (hla.keeps g₁₅) her hr0 (hecp e (.head _)) (by omega) (by omega)
          fun B₁₆ h₁₆ tk₁₆ m₁₆ led₁₆ g₁₆ F₁₆ N₁₆ hm₁₆ I16 hb₁₆ => wpAny_execs_nil (wpAny_execs_nil ?_)
        have hmm : ∀ x : Str, x ≠ "m" → x ≠ "cut" → m₁₆ x = _ := fun x a b => (hm₁₆ x a b).trans (hm₁₅ x a)
        exact ⟨n, Nat.lt_succ_self _, B₁₆, h₁₆, _, _, led₁₆, stepL (ps.map (·.1)) e es, c + 110, ss ++ [(e.rest, tr)], kk + 1, rfl, Grown.trans g' (Grown.trans g₁₅ g₁₆), F₁₆, N₁₆, I16, hb₁₆.mono (by omega), by omega, by omega, by simp; omega, step_bound hcpw (hecp e (.head _)) (fun o ho => hecp o (.tail _ ho)), (hmm _ (by decide) (by decide)).trans (by walk_at "lk"), (hmm _ (by decide) (by decide)).trans (by walk_at "lk"), (hmm _ (by decide) (by decide)).trans (by walk_at "lk"), by rw [List.map_append]; exact hsh⟩
end Mine

namespace Mine

theorem boot_min : bootBuiltins "min" = some (.builtin "min") := by decide +kernel
theorem boot_max : bootBuiltins "max" = some (.builtin "max") := by decide +kernel
theorem boot_set : bootBuiltins "set" = some (.type "set") := by decide +kernel
theorem boot_sum : bootBuiltins "sum" = some (.builtin "sum") := by decide +kernel

noncomputable def minL (a b : List Nat) : List Nat := if b < a then b else a
noncomputable def maxL (a b : List Nat) : List Nat := if a < b then b else a

section
variable {w : World} {A : Around} {E : Value → Shared → Prop} {s : Shared}
theorem min2 {a b : List Nat} {t u : Tok} {Q : Value → Shared → Prop} (hh : A.handled = none)
    (h : ∀ h' tk t', Grown s.heap h' → Q (.str (S (minL a b)) t') { s with heap := h', toks := tk }) :
    wpAny (model P0 w) A (call (.builtin "min") [.str (S a) t, .str (S b) u]) Q E s := by
  have hT : (s.heap.push { cls := .type "tuple", data := .seq #[.str (S a) t, .str (S b) u] }).IsTuple s.heap.objs.size #[.str (S a) t, .str (S b) u] := ⟨_, Heap.get?_push_size _ rfl, rfl, 0, rfl⟩
  refine call_min_two (wpAny_pyIter_tuple hT ?_)
  have hsz : (s.heap.push { cls := .type "tuple", data := .seq #[.str (S a) t, .str (S b) u] }).objs.size = s.heap.objs.size + 1 := Heap.size_push ..
  refine ⟨_, [_, s.heap.objs.size], [_], _, _, _, fun i j => decide ((if i = 0 then a else b) < (if j = 0 then a else b)), rfl, Walks.tuple (A := A.in1) hh _ s.heap.objs.size (by rw [hsz]; exact Nat.ne_of_lt (Nat.lt_succ_self _)) #[.str (S a) t, .str (S b) u],
    ⟨⟨_, Heap.get?_push_size _ rfl, rfl, rfl⟩, hT.push _⟩, fun c hc => ?_, by simp, ?_, fun v h' tk hP hk => ?_⟩
  · show c < ((s.heap.push _).push _).objs.size
    rw [Heap.size_push, hsz]
    rcases List.mem_cons.mp hc with rfl | hc
    · rw [hsz]; exact Nat.lt_succ_self _
    · rcases List.mem_cons.mp hc with rfl | hc
      · exact Nat.lt_succ_of_lt (Nat.lt_succ_self _)
      · cases hc
  · intro i j vi vj s' Q' E' hi hj hq
    have key : ∀ i v, (#[Value.str (S a) t, Value.str (S b) u])[i]? = some v → ∃ t', v = Value.str (S (if i = 0 then a else b)) t' := fun i v h => by
      match i, h with
      | 0, h => exact ⟨t, by simpa using h.symm⟩
      | 1, h => exact ⟨u, by simpa using h.symm⟩
      | (n + 2), h => simp at h
    obtain ⟨t1, rfl⟩ := key i vi hi
    obtain ⟨t2, rfl⟩ := key j vj hj
    exact lt_str (x := S (if i = 0 then a else b)) (y := S (if j = 0 then a else b)) hq
  · have hold : Grown s.heap h' := fun c o e => by
      refine hk c o (fun hm => ?_) (Heap.get?_push_of_some _ (Heap.get?_push_of_some _ e))
      rcases List.mem_cons.mp hm with e1 | hm
      · have := Heap.lt_size e; rw [e1, hsz] at this; exact Nat.lt_irrefl _ (Nat.lt_of_succ_lt this)
      · cases hm
    by_cases hba : b < a
    · have e : argBest (fun i j => decide ((if i = 0 then a else b) < (if j = 0 then a else b))) 1 = 1 := by simp [argBest, hba]
      have hP' : (#[Value.str (S a) t, Value.str (S b) u])[argBest (fun i j => decide ((if i = 0 then a else b) < (if j = 0 then a else b))) 1]? = some v := hP
      rw [e] at hP'
      have hv : v = Value.str (S (minL a b)) u := by rw [minL, if_pos hba]; simpa using hP'.symm
      rw [hv]; exact h h' tk u hold
    · have e : argBest (fun i j => decide ((if i = 0 then a else b) < (if j = 0 then a else b))) 1 = 0 := by simp [argBest, hba]
      have hP' : (#[Value.str (S a) t, Value.str (S b) u])[argBest (fun i j => decide ((if i = 0 then a else b) < (if j = 0 then a else b))) 1]? = some v := hP
      rw [e] at hP'
      have hv : v = Value.str (S (minL a b)) t := by rw [minL, if_neg hba]; simpa using hP'.symm
      rw [hv]; exact h h' tk t hold
theorem max2 {a b : List Nat} {t u : Tok} {Q : Value → Shared → Prop} (hh : A.handled = none)
    (h : ∀ h' tk t', Grown s.heap h' → Q (.str (S (maxL a b)) t') { s with heap := h', toks := tk }) :
    wpAny (model P0 w) A (call (.builtin "max") [.str (S a) t, .str (S b) u]) Q E s := by
  have hT : (s.heap.push { cls := .type "tuple", data := .seq #[.str (S a) t, .str (S b) u] }).IsTuple s.heap.objs.size #[.str (S a) t, .str (S b) u] := ⟨_, Heap.get?_push_size _ rfl, rfl, 0, rfl⟩
  refine call_max_two (wpAny_pyIter_tuple hT ?_)
  have hsz : (s.heap.push { cls := .type "tuple", data := .seq #[.str (S a) t, .str (S b) u] }).objs.size = s.heap.objs.size + 1 := Heap.size_push ..
  refine ⟨_, [_, s.heap.objs.size], [_], _, _, _, fun i j => decide ((if j = 0 then a else b) < (if i = 0 then a else b)), rfl, Walks.tuple (A := A.in1) hh _ s.heap.objs.size (by rw [hsz]; exact Nat.ne_of_lt (Nat.lt_succ_self _)) #[.str (S a) t, .str (S b) u],
    ⟨⟨_, Heap.get?_push_size _ rfl, rfl, rfl⟩, hT.push _⟩, fun c hc => ?_, by simp, ?_, fun v h' tk hP hk => ?_⟩
  · show c < ((s.heap.push _).push _).objs.size
    rw [Heap.size_push, hsz]
    rcases List.mem_cons.mp hc with rfl | hc
    · rw [hsz]; exact Nat.lt_succ_self _
    · rcases List.mem_cons.mp hc with rfl | hc
      · exact Nat.lt_succ_of_lt (Nat.lt_succ_self _)
      · cases hc
  · intro i j vi vj s' Q' E' hi hj hq
    have key : ∀ i v, (#[Value.str (S a) t, Value.str (S b) u])[i]? = some v → ∃ t', v = Value.str (S (if i = 0 then a else b)) t' := fun i v h => by
      match i, h with
      | 0, h => exact ⟨t, by simpa using h.symm⟩
      | 1, h => exact ⟨u, by simpa using h.symm⟩
      | (n + 2), h => simp at h
    obtain ⟨t1, rfl⟩ := key i vi hi
    obtain ⟨t2, rfl⟩ := key j vj hj
    exact PySem.P.gt_str (x := S (if i = 0 then a else b)) (y := S (if j = 0 then a else b)) hq
  · have hold : Grown s.heap h' := fun c o e => by
      refine hk c o (fun hm => ?_) (Heap.get?_push_of_some _ (Heap.get?_push_of_some _ e))
      rcases List.mem_cons.mp hm with e1 | hm
      · have := Heap.lt_size e; rw [e1, hsz] at this; exact Nat.lt_irrefl _ (Nat.lt_of_succ_lt this)
      · cases hm
    by_cases hba : a < b
    · have e : argBest (fun i j => decide ((if j = 0 then a else b) < (if i = 0 then a else b))) 1 = 1 := by simp [argBest, hba]
      have hP' : (#[Value.str (S a) t, Value.str (S b) u])[argBest (fun i j => decide ((if j = 0 then a else b) < (if i = 0 then a else b))) 1]? = some v := hP
      rw [e] at hP'
      have hv : v = Value.str (S (maxL a b)) u := by rw [maxL, if_pos hba]; simpa using hP'.symm
      rw [hv]; exact h h' tk u hold
    · have e : argBest (fun i j => decide ((if j = 0 then a else b) < (if i = 0 then a else b))) 1 = 0 := by simp [argBest, hba]
      have hP' : (#[Value.str (S a) t, Value.str (S b) u])[argBest (fun i j => decide ((if j = 0 then a else b) < (if i = 0 then a else b))) 1]? = some v := hP
      rw [e] at hP'
      have hv : v = Value.str (S (maxL a b)) t := by rw [maxL, if_neg hba]; simpa using hP'.symm
      rw [hv]; exact h h' tk t hold
end

noncomputable def pairs0 (ws : List (List Nat)) : List (List Nat × List Nat) := ws.flatMap fun a => (ws.filter fun b => decide (a < b)).map fun b => (a, b)
noncomputable def keyOf (low high : List Nat) : List Nat := low ++ [46] ++ high
noncomputable def lvl (ws : List (List Nat)) : List (List Nat × List Nat) → List (List Nat) → List (List Nat × List Nat) → Option (List (List Nat) × List (List Nat × List Nat))
  | [], seen, after => some (seen, after)
  | (a, b) :: r, seen, after =>
    if a.headD 0 = b.headD 0 then
      let low := minL a.tail b.tail
      let high := maxL a.tail b.tail
      if high = [] then none
      else if keyOf low high ∈ seen then lvl ws r seen after
      else lvl ws r (seen ++ [keyOf low high]) (after ++ if low = [] then ws.map fun x => (x, high) else [(low, high)])
    else lvl ws r seen after
noncomputable def readL (ws : List (List Nat)) : Nat → List (List Nat × List Nat) → List (List Nat) → Nat → Option Nat
  | 0, _, _, _ => none
  | f + 1, level, seen, size =>
    if level = [] then some 0
    else match lvl ws level seen [] with
      | none => some (size + 1)
      | some (seen', after) => if seen'.length < 2000 ∧ after.length < 2000 then readL ws f after seen' (size + 1) else none
end Mine

namespace Mine
local macro_rules | `(tactic| walk_at "lk") => `(tactic| first | with_reducible assumption | exact upd_self | (refine (upd_ne (by decide)).trans ?_; walk_at "lk") | exact rfl)

noncomputable abbrev PR := List Nat × List Nat
noncomputable def PairIs (h : Heap) (v : Value) (p : PR) : Prop := ∃ T t u, v = .ref T ∧ h.get? T = some (tupOf #[.str (S p.1) t, .str (S p.2) u])
theorem PairIs.keeps {h h' : Heap} {v : Value} {p : PR} (x : PairIs h v p) (k : Grown h h') : PairIs h' v p := by obtain ⟨T, t, u, a, b⟩ := x; exact ⟨T, t, u, a, k _ _ b⟩
inductive PairsAre (h : Heap) : List Value → List PR → Prop
  | nil : PairsAre h [] []
  | cons {v p vs ps} : PairIs h v p → PairsAre h vs ps → PairsAre h (v :: vs) (p :: ps)
theorem PairsAre.keeps {h h' : Heap} (k : Grown h h') : ∀ {vs : List Value} {ps : List PR}, PairsAre h vs ps → PairsAre h' vs ps := by
  intro vs ps x
  induction x with
  | nil => exact .nil
  | cons a b ih => exact .cons (a.keeps k) ih
theorem PairsAre.append {h : Heap} : ∀ {vs us : List Value} {ps qs : List PR}, PairsAre h vs ps → PairsAre h us qs → PairsAre h (vs ++ us) (ps ++ qs) := by
  intro vs us ps qs x y
  induction x with
  | nil => exact y
  | cons a b ih => exact .cons a ih
theorem PairsAre.length {h : Heap} : ∀ {vs : List Value} {ps : List PR}, PairsAre h vs ps → vs.length = ps.length := by
  intro vs ps x
  induction x with
  | nil => rfl
  | cons a b ih => exact congrArg Nat.succ ih
theorem PairsAre.get {h : Heap} : ∀ {vs : List Value} {ps : List PR}, PairsAre h vs ps → ∀ (i : Nat) (h1 : i < vs.length) (h2 : i < ps.length), PairIs h vs[i] ps[i] := by
  intro vs ps x
  induction x with
  | nil => intro i h1; exact absurd h1 (Nat.not_lt_zero _)
  | cons a b ih =>
    intro i h1 h2
    cases i with
    | zero => exact a
    | succ i => exact ih i (Nat.lt_of_succ_lt_succ h1) (Nat.lt_of_succ_lt_succ h2)

section
variable {w : World} {A : Around} {E : Value → Shared → Prop} {s : Shared} {env : Env}

theorem asg3 {x y z : Str} {px py pz tp vp pos : Pos} {k k' : Nat} {e1 e2 e3 : Expr} {Q : Flow → Shared → Prop} (hh : A.handled = none)
    (h : wpAny (model P0 w) A (spliced (backTo vp (starEach [e1, e2, e3] env))) (fun vs s₂ => ∃ v1 v2 v3, vs = [v1, v2, v3] ∧ ∀ h', Grown s₂.heap h' →
      wpAny (model P0 w) A (storeName env z v3) (fun _ s₃ => wpAny (model P0 w) A (storeName env y v2) (fun _ s₄ => wpAny (model P0 w) A (storeName env x v1) (fun _ => Q .next) E s₄) E s₃) E { s₂ with heap := h' }) E s)
    (hs : swapsWithSole [.Tuple [.Name x px, .Name y py, .Name z pz] k tp] (.Tuple [e1, e2, e3] k' vp) pos.line env = pure false := by rfl)
    (hw : swappedStores [.Tuple [.Name x px, .Name y py, .Name z pz] k tp] (.Tuple [e1, e2, e3] k' vp) env = pure (some [x, y, z]) := by rfl) :
    wpAny (model P0 w) A (exec (.Assign [.Tuple [.Name x px, .Name y py, .Name z pz] k tp] (.Tuple [e1, e2, e3] k' vp) pos) env) Q E s := by
  refine Assign_Tuple_swapped (tup_disp (wpAny_mono h (fun vs s₂ h₂ => ?_) fun _ _ e => e)) hs hw
  obtain ⟨v1, v2, v3, rfl, h₂⟩ := h₂
  refine ⟨by simp, fun h' r k₁ n₁ o₁ => ?_⟩
  refine unpackItems_tuple (items := #[v1, v2, v3]) hh ⟨_, o₁, rfl, _, rfl⟩ fun h'' e'' => ?_
  exact assignInOrder_cons (bindName_ (wpAny_mono (h₂ h'' (k₁.trans (grown_ext e''))) (fun _ s₃ h₃ => assignInOrder_cons (bindName_ (wpAny_mono h₃ (fun _ s₄ h₄ => assignInOrder_cons (bindName_ (wpAny_mono h₄ (fun _ _ q => assignInOrder_nil q) fun _ _ e => e))) fun _ _ e => e))) fun _ _ e => e))

theorem unpack2 {x1 x2 : Str} {p1 p2 tp : Pos} {k : Nat} {T : Addr} {v1 v2 : Value} {Q : Unit → Shared → Prop} (hh : A.handled = none) (hT : s.heap.get? T = some (tupOf #[v1, v2]))
    (h : ∀ h', Grown s.heap h' → wpAny (model P0 w) A (storeName env x1 v1) (fun _ s₁ => wpAny (model P0 w) A (storeName env x2 v2) Q E s₁) E { s with heap := h' }) :
    wpAny (model P0 w) A (assign (.Tuple [.Name x1 p1, .Name x2 p2] k tp) env (.ref T)) Q E s := by
  refine assign_Tuple_tuple hh ⟨_, hT, rfl, _, rfl⟩ rfl rfl fun h' e' => ?_
  exact assignInOrder_cons (wpAny_assign_Name (wpAny_mono (h h' (grown_ext e')) (fun _ s₁ h₁ => assignInOrder_cons (wpAny_assign_Name (wpAny_mono h₁ (fun _ s₂ h₂ => assignInOrder_nil h₂) fun _ _ e => e))) fun _ _ e => e))
end

noncomputable abbrev envR (L a : Addr) (c : Addr) : Env := envOfC "_law_readers" (sco 24) L a (.ref c)
theorem News.sub {B h : Heap} {L : Addr} {led led' : List (Addr × Obj)} (N : News B L h led) (k : ∀ p ∈ led', p ∈ led) : News B L h led' := fun p hp => N p (k p hp)

noncomputable def nameOfComp : Expr → Option (Expr × List Comprehension × Scope × Pos)
  | .ListComp e g s p => some (e, g, s, p)
  | _ => none

noncomputable def tupElt : Stmt → Nat → Expr
  | .Assign _ (.Tuple es _ _) _, i => (es[i]?).getD (.Constant .none 0 default)
  | _, _ => .Constant .none 0 default

set_option maxHeartbeats 4000000 in
theorem pairs_comp {w : World} {A : Around} {E : Value → Shared → Prop} {s : Shared} {B : Heap} {L a c l : Addr} {ps : List WT} {Q : Value → Shared → Prop} (hh : A.handled = none) (hB : Grown B s.heap)
    (hc : B.IsCell (L + 1) (some (.ref l))) (hl : B.IsList l (ps.map sv).toArray) (hn : ps.length ≤ 10)
    (h : ∀ h' tk D vs k, Grown s.heap h' → s.heap.get? D = none → h'.get? D = some (listOf (List.toArray vs) k) → PairsAre h' vs (pairs0 (ps.map (·.1))) → Q (.ref D) { s with heap := h', toks := tk }) :
    wpAny (model P0 w) A (eval (tupElt (nthS (body 24) 0) 0) (envR L a c)) Q E s := by
  refine comp2_eval (comp_enter (cl := [("code", L + 1)]) rfl ?_)
  refine ldC (hc.keeps hB) (iter_list (listK hl (hB)) fun h₁ I o k₁ n₁ o₁ hO => ?_)
  refine ⟨I, _, _, _, _, o, rfl, Iter.list hh I l (ps.map sv).toArray, o₁, hO, fun C D h₂ tk₂ m₂ hDI F N => ?_⟩
  have hfr : ∀ b o, B.get? b = some o → (h₁.hide I).get? b = some o := fun b o e => by
    rw [Heap.hide_ne _ (fun q => by rw [q] at e; rw [hB _ _ e] at n₁; cases n₁)]
    exact k₁ _ _ (hB _ _ e)
  have hc0 : (h₁.hide I).IsCell (L + 1) (some (.ref l)) := hc.keeps hfr
  have hl0 : (h₁.hide I).IsList l (ps.map sv).toArray := listK hl (hfr)
  refine comp_more rfl rfl rfl (fun _ => rfl) (Iter.list hh I l (ps.map sv).toArray) (fun h k => listK hl0 (k))
    (fun i B' _ acc => PairsAre B' acc (((ps.map (·.1)).take i).flatMap fun a => ((ps.map (·.1)).filter fun b => decide (a < b)).map fun b => (a, b)) ∧ acc.length ≤ 10 * i) F N hDI (fun p hp => noMem hp) hO ⟨by simpa using PairsAre.nil, by simp⟩ ?_ ?_
  · rintro i v B' h' tk' m' acc' k o' hi hv g' F' N' ⟨J', hal⟩
    have hi' : i < ps.length := by simpa using hi
    have hv' : v = sv ps[i] := by simpa [hi'] using hv.symm
    subst hv'
    refine wpAny_assign_Name (stE F' N' fun h₃ tk₃ F₃ N₃ => wpAny_tests_nil ?_)
    rw [if_pos rfl]
    refine ldC ((hc0.keeps g').keeps F₃.keep) (iter_list (listK hl0 (fun _ _ x => F₃.keep _ _ (g' _ _ x))) fun h₄ I₁ o₄ k₄ n₄ oI₄ hO₄ => ?_)
    have F₄ := F₃.grow k₄
    have N₄ := News.join F₃ N₃ k₄ n₄ oI₄
    have out4 := (fresh_out F₃ N₃ n₄).2
    have W₁ := Iter.list (w := w) hh I₁ l (ps.map sv).toArray
    refine (fun hl => compStart_at rfl hl (W₁.self 0 _ o₄ _ _ oI₄ hO₄ hl)) ?_
    refine comp_last (d := 1) rfl rfl W₁ (fun h k => listK hl0 (fun _ _ x => k _ _ (g' _ _ x)))
      (fun j B'' m'' acc => PairsAre B'' acc ((((ps.map (·.1)).take i).flatMap fun a => ((ps.map (·.1)).filter fun b => decide (a < b)).map fun b => (a, b)) ++ (((ps.map (·.1)).take j).filter fun b => decide (ps[i].1 < b)).map fun b => (ps[i].1, b)) ∧ acc.length ≤ 10 * i + j ∧ j ≤ 10 ∧ m'' "a" = some (sv ps[i]))
      (led := [(I, o')]) (acc := acc') (kD := k) F₄ (News.sub N₄ fun p hp => ?_) ?_ ?_ ?_ hO₄ ⟨by simpa using J', by omega, by omega, upd_self⟩ ?_ ?_ ?_
    · simp only [List.mem_cons, List.not_mem_nil, or_false] at hp ⊢
      rcases hp with h | h | h
      · exact .inl h
      · exact .inr (.inr h)
      · exact .inr (.inl h)
    · exact out4 (D, listOf acc'.toArray k) (.tail _ (.head _))
    · intro p hp; simp only [List.mem_singleton] at hp; subst hp; exact out4 (I, o') (.head _)
    · intro p hp; simp only [List.mem_singleton] at hp; subst hp; exact hDI.symm
    · rintro j B'' m'' acc ⟨_, hj, hj10, _⟩; omega
    · rintro j v B'' h₅ tk₅ m₅ acc₅ k₅ o₅ hj hv₅ g₅ F₅ N₅ ⟨J₅, hal₅, _, ma₅⟩
      have hj' : j < ps.length := by simpa using hj
      have hv' : v = sv ps[j] := by simpa [hj'] using hv₅.symm
      subst hv'
      have hget : (ps.map (·.1))[j]? = some ps[j].1 := by simp [hj']
      refine wpAny_assign_Name (stE F₅ N₅ fun h₆ tk₆ F₆ N₆ => wpAny_tests_one ?_)
      refine wpAny_isTrue_Compare1 (ldE F₆ ((upd_ne (by decide)).trans ma₅) (ldE F₆ upd_self (lt_str (wpAny_truthy_bool ?_))))
      show if decide (ps[i].1 < ps[j].1) = true then _ else _
      have etake : ((ps.map (·.1)).take (j + 1)).filter (fun b => decide (ps[i].1 < b)) = ((ps.map (·.1)).take j).filter (fun b => decide (ps[i].1 < b)) ++ if ps[i].1 < ps[j].1 then [ps[j].1] else [] := by
        rw [List.take_add_one, hget, List.filter_append]
        by_cases hlt : ps[i].1 < ps[j].1 <;> simp [hlt]
      by_cases hlt : ps[i].1 < ps[j].1
      · rw [if_pos (by simpa using hlt)]
        refine tup_disp (spl2 (ldE F₆ ((upd_ne (by decide)).trans ma₅) (ldE F₆ upd_self ⟨by simp, fun h₇ T k₇ n₇ o₇ => ?_⟩)))
        have F₇ := F₆.grow k₇
        have N₇ := News.grow' N₆ k₇
        obtain ⟨B₈, g₈, F₈, N₈, hin⟩ := rebase F₇ N₇
        have out7 := fresh_out F₆ N₆ n₇
        refine ⟨B₈, h₇, _, _, rfl, g₈, F₈, N₈, ?_, by simp; omega, by omega, (upd_ne (by decide)).trans ma₅⟩
        rw [etake, if_pos hlt, List.map_append, ← List.append_assoc]
        exact (J₅.keeps g₈).append (.cons ⟨T, _, _, rfl, hin _ _ o₇ out7.1 out7.2⟩ .nil)
      · rw [if_neg (by simpa using hlt)]
        refine ⟨B'', h₆, _, _, rfl, fun _ _ e => e, F₆, N₆, ?_, by omega, by omega, (upd_ne (by decide)).trans ma₅⟩
        rw [etake, if_neg hlt, List.append_nil]
        exact J₅
    · rintro B'' h₅ tk₅ m₅ acc₅ k₅ g₅ F₅ N₅ ⟨J₅, hal₅, _, _⟩
      refine ⟨⟨_, rfl⟩, B'', h₅, tk₅, m₅, acc₅, k₅, rfl, g₅, F₅, News.sub N₅ fun p hp => ?_, ?_, ?_⟩
      · simp only [List.mem_cons, List.not_mem_nil, or_false] at hp ⊢
        exact hp.symm
      · have hget : (ps.map (·.1))[i]? = some ps[i].1 := by simp [hi']
        rw [List.take_add_one, hget, List.flatMap_append]
        have e1 : (ps.map (·.1)).take (ps.map sv).toArray.size = ps.map (·.1) := List.take_of_length_le (by simp)
        rw [e1] at J₅
        simpa using J₅
      · have : (ps.map sv).toArray.size = ps.length := by simp
        omega
  · rintro B' h' tk' m' acc' k g' F' N' ⟨J', _⟩
    refine ⟨m', F'.ns, fun h'' s'' => ?_⟩
    have hD := N' _ (.head _)
    have oD := (s''.2 D hD.2.1).trans hD.1
    have gB'' : Grown B' h'' := fun b o e => (s''.2 b (fun q => by rw [q, F'.free] at e; cases e)).trans (F'.keep b o e)
    have gs : Grown s.heap h'' := fun b o e => gB'' b o (g' b o (by
      rw [Heap.hide_ne _ (fun q => by rw [q] at e; rw [e] at n₁; cases n₁)]
      exact k₁ _ _ e))
    refine h h'' tk' D acc' k gs ?_ oD ?_
    · cases e : s.heap.get? D with
      | none => rfl
      | some o =>
        have hne : D ≠ I := hDI
        have : (h₁.hide I).get? D = some o := by rw [Heap.hide_ne _ hne]; exact k₁ _ _ e
        rw [(N _ (.tail _ (.head _))).2.2] at this; cases this
    · have e1 : (ps.map (·.1)).take (ps.map sv).toArray.size = ps.map (·.1) := List.take_of_length_le (by simp)
      rw [e1] at J'
      exact J'.keeps gB''
end Mine

namespace Mine
local macro_rules | `(tactic| walk_at "lk") => `(tactic| first | with_reducible assumption | exact upd_self | (refine (upd_ne (by decide)).trans ?_; walk_at "lk") | exact rfl)

noncomputable def callArg : Stmt → Expr
  | .Expr (.Call _ (e :: _) _ _) _ => e
  | _ => .Constant .none 0 default
noncomputable def ifExpBody : Expr → Expr
  | .IfExp _ b _ _ => b
  | e => e
noncomputable def rdBody : List Stmt := forBody (nthS (whileBody (nthS (body 24) 1)) 2)
noncomputable def rdIf : List Stmt := ifBody (nthS rdBody 0)
noncomputable def rdNew : List Stmt := ifBody (nthS rdIf 2)

set_option maxHeartbeats 4000000 in
theorem wh_comp {w : World} {A : Around} {E : Value → Shared → Prop} {s : Shared} {L a c l : Addr} {ps : List WT} {hi : List Nat} {th : Tok} {Q : Value → Shared → Prop} (hh : A.handled = none)
    (hc : s.heap.IsCell (L + 1) (some (.ref l))) (hH : s.heap.IsCell (L + 2) (some (.str (S hi) th))) (hl : s.heap.IsList l (ps.map sv).toArray) (hn : ps.length ≤ 10)
    (h : ∀ h' tk D vs k, Grown s.heap h' → s.heap.get? D = none → h'.get? D = some (listOf (List.toArray vs) k) → PairsAre h' vs ((ps.map (·.1)).map fun x => (x, hi)) → (∀ p ∈ vs, ∀ b, p = .ref b → s.heap.get? b = none) → Q (.ref D) { s with heap := h', toks := tk }) :
    wpAny (model P0 w) A (eval (ifExpBody (callArg (nthS rdNew 1))) (envR L a c)) Q E s := by
  refine comp1_eval (comp1 (cl := [("high", L + 2)]) rfl ?_)
  refine ldC hc (iter_list hl fun h₁ I o k₁ n₁ o₁ hO => ?_)
  have hfr : Grown s.heap (h₁.hide I) := fun b o e => by
    rw [Heap.hide_ne _ (fun q => by rw [q] at e; rw [e] at n₁; cases n₁)]
    exact k₁ _ _ e
  have hl0 : (h₁.hide I).IsList l (ps.map sv).toArray := listK hl (hfr)
  refine ⟨I, _, _, _, _, o, fun i B' acc => PairsAre B' acc (((ps.map (·.1)).take i).map fun x => (x, hi)) ∧ acc.length ≤ i ∧ i ≤ 10 ∧ ∀ p ∈ acc, ∀ b, p = .ref b → s.heap.get? b = none, rfl, Iter.list hh I l (ps.map sv).toArray,
    fun h k => listK hl0 (k), o₁, hO, ⟨by simpa using PairsAre.nil, by simp, by omega, by simp⟩, fun i B' acc q => by omega, ?_, ?_⟩
  · rintro i v C D B' h' tk' m' acc' k o' hi' hv g' F' N' ⟨J', hal, _, hfresh⟩
    have hi'' : i < ps.length := by simpa using hi'
    have hv' : v = sv ps[i] := by simpa [hi''] using hv.symm
    subst hv'
    have hget : (ps.map (·.1))[i]? = some ps[i].1 := by simp [hi'']
    refine wpAny_assign_Name (stE F' N' fun h₃ tk₃ F₃ N₃ => wpAny_tests_nil ?_)
    rw [if_pos rfl]
    refine tup_disp (spl2 (ldE F₃ upd_self (ldC (((hH.keeps hfr).keeps g').keeps F₃.keep) ⟨by simp, fun h₇ T k₇ n₇ o₇ => ?_⟩)))
    have F₇ := F₃.grow k₇
    have N₇ := News.grow' N₃ k₇
    obtain ⟨B₈, g₈, F₈, N₈, hin⟩ := rebase F₇ N₇
    have out7 := fresh_out F₃ N₃ n₇
    refine ⟨B₈, h₇, _, _, rfl, g₈, F₈, N₈, ?_, by simp; omega, by omega, ?_⟩
    · rw [List.take_add_one, hget, List.map_append]
      exact (J'.keeps g₈).append (.cons ⟨T, _, _, rfl, hin _ _ o₇ out7.1 out7.2⟩ .nil)
    · intro p hp b hb
      rcases List.mem_append.mp hp with hp | hp
      · exact hfresh p hp b hb
      · simp only [List.mem_singleton] at hp
        rw [hp] at hb
        cases hb
        cases e : s.heap.get? T with
        | none => rfl
        | some o => rw [F₃.keep _ _ (g' _ _ (hfr _ _ e))] at n₇; cases n₇
  · rintro B' C h' tk' m' D acc' k g' F' N' ⟨J', _, _, hfresh⟩
    refine ⟨m', F'.ns, fun h'' s'' => ?_⟩
    have hD := N' _ (.head _)
    have oD := (s''.2 D hD.2.1).trans hD.1
    have gB'' : Grown B' h'' := fun b o e => (s''.2 b (fun q => by rw [q, F'.free] at e; cases e)).trans (F'.keep b o e)
    have gs : Grown s.heap h'' := fun b o e => gB'' b o (g' b o (hfr b o e))
    refine h h'' tk' D acc' k gs ?_ oD ?_ hfresh
    · cases e : s.heap.get? D with
      | none => rfl
      | some o => rw [g' _ _ (hfr _ _ e)] at hD; cases hD.2.2
    · have e1 : (ps.map (·.1)).take (ps.map sv).toArray.size = ps.map (·.1) := List.take_of_length_le (by simp)
      rw [e1] at J'
      exact J'.keeps gB''

noncomputable def SetOb (w : World) (o : Obj) (seen : List (List Nat)) : Prop :=
  ∃ es ep t, o.ExactSet ∧ o.data = .set es ep t ∧ ElemsOf (strKind P0 w) es.toList ∧ (∀ k, (seen.any fun x => decide (k = S x)) = true ↔ ∃ e ∈ es.toList, (strKind P0 w).is k e.2 = true) ∧ es.size < scanBound ∧ t.fits es.size = true ∧ es.size = seen.length
theorem SetOb.of {w : World} {o : Obj} {seen : List (List Nat)} {h : Heap} {a : Addr} (x : SetOb w o seen) (ho : h.get? a = some o) : h.SetOf (strKind P0 w) a (fun k => seen.any fun x => decide (k = S x)) seen.length :=
  by obtain ⟨es, ep, t, x1, x2, x3, x4, x5, x6, x7⟩ := x; exact ⟨o, es, ep, t, ho, x1, x2, x3, x4, x5, x6, x7⟩
theorem is_str (w : World) (x : Str) (t : Tok) : (strKind P0 w).is x (.str x t) = true := by
  show Value.isStrOf x (.str x t) = true
  simp [Value.isStrOf]
theorem any_key (seen : List (List Nat)) (x : List Nat) : (seen.any fun y => decide (S x = S y)) = decide (x ∈ seen) := by
  rw [Bool.eq_iff_iff, List.any_eq_true, decide_eq_true_eq]
  constructor
  · rintro ⟨y, hy, e⟩
    rw [decide_eq_true_eq, S_inj] at e
    exact e ▸ hy
  · intro hx
    exact ⟨x, hx, by simp⟩

section
variable {w : World} {A : Around} {E : Value → Shared → Prop} {s : Shared}
theorem set_new {Q : Value → Shared → Prop} (h : ∀ h' r o, Grown s.heap h' → s.heap.get? r = none → h'.get? r = some o → SetOb w o [] → Q (.ref r) { s with heap := h' }) :
    wpAny (model P0 w) A (call (.type "set") []) Q E s :=
  call_set_0 fun led => h _ _ _ (Grown.push _ _) (get_size _) (Heap.get?_push_size _ rfl) ⟨#[], 0, _, ⟨rfl, rfl, rfl⟩, rfl, fun e he => by simp at he, fun k => by simp, by decide, by rfl, rfl⟩
theorem set_notin {a : Addr} {o : Obj} {seen : List (List Nat)} {x : List Nat} {t : Tok} {Q : Value → Shared → Prop} (ho : s.heap.get? a = some o) (hS : SetOb w o seen) (h : ∀ tk, Q (.bool (!decide (x ∈ seen))) { s with toks := tk }) :
    wpAny (model P0 w) A (compareOp .NotIn (.str (S x) t) (.ref a)) Q E s := by
  refine wpAny_notInSet_of (is_str w _ t) rfl (hS.of ho) ?_
  rw [any_key]; exact h _
theorem set_add {a : Addr} {o : Obj} {seen : List (List Nat)} {x : List Nat} {t : Tok} {Q : Value → Shared → Prop} (ho : s.heap.get? a = some o) (hS : SetOb w o seen) (hx : x ∉ seen) (hz : seen.length < 4000)
    (h : ∀ h' tk o', Heap.SameBut a s.heap h' → h'.get? a = some o' → SetOb w o' (seen ++ [x]) → Q .none { s with heap := h', toks := tk }) :
    wpAny (model P0 w) A (call (.builtin "set.add") [.ref a, .str (S x) t]) Q E s := by
  refine call_set_add (is_str w _ t) rfl (hS.of ho) (by have : scanBound = 4096 := rfl; omega) fun h' hs' hS' => ?_
  rw [any_key, decide_eq_false hx] at hS'
  obtain ⟨o', es, ep, tt, ho', x1, x2, x3, x4, x5, x6, x7⟩ := hS'
  refine h h' _ o' hs' ho' ⟨es, ep, tt, x1, x2, x3, fun k => ?_, x5, x6, by simpa using x7⟩
  rw [← x4 k]
  simp [List.any_append]
end
end Mine

namespace Mine
local macro_rules | `(tactic| walk_at "lk") => `(tactic| first | with_reducible assumption | exact upd_self | (refine (upd_ne (by decide)).trans ?_; walk_at "lk") | exact rfl)

theorem char0 (a : Nat) (r : List Nat) : Txt.charAt (S (a :: r)) 0 = some a := StrLaws.at_nonneg (by decide) rfl
theorem head_item {w : World} {A : Around} {E : Value → Shared → Prop} {s : Shared} {env : Env} {e : Expr} {p1 pos : Pos} {x : List Nat} {Q : Value → Shared → Prop} (hx : x ≠ [])
    (he : wpAny (model P0 w) A (eval e env) (fun v s₁ => (∃ t, v = .str (S x) t) ∧ ∀ t' tk, Q (.str (S [x.headD 0]) t') { s₁ with toks := tk }) E s) :
    wpAny (model P0 w) A (eval (.Subscript e (.Constant (.int 0) 0 p1) pos) env) Q E s := by
  refine sub_any (wpAny_mono he (fun v s₁ h₁ => ?_) fun _ _ e => e)
  obtain ⟨⟨t, rfl⟩, hq⟩ := h₁
  refine wpAny_Constant_int ?_
  cases x with
  | nil => exact absurd rfl hx
  | cons a r =>
    refine subscriptTail_builtin (typeIs_str _ _ _) F.slot_str_getitem.lookup (SB.getItem rfl (by rw [char0]; rfl) ?_)
    have e : Txt.item (S (a :: r)) 0 = S [a] := by unfold Txt.item; rw [char0]; rfl
    rw [e]; exact hq _ _

inductive RJ (w : World) (L sn af : Addr) (B' : Heap) (m' : Str → Option Value) (led' : List (Addr × Obj)) (seen : List (List Nat)) (after : List PR) (size : Nat) : Prop
  | mk : ∀ oH v0 oS avs k ts, led' = [(L + 2, oH), (sn, oS), (af, listOf (List.toArray avs) k)] → oH.data = .cell v0 → SetOb w oS seen → PairsAre B' avs after →
    m' "seen" = some (.ref sn) → m' "after" = some (.ref af) → m' "size" = some (.int (size : Int) ts) → RJ w L sn af B' m' led' seen after size

noncomputable def lvl1 (ws : List (List Nat)) (p : PR) (seen : List (List Nat)) (after : List PR) : Option (List (List Nat) × List PR) :=
  if p.1.headD 0 = p.2.headD 0 then
    if maxL p.1.tail p.2.tail = [] then none
    else if keyOf (minL p.1.tail p.2.tail) (maxL p.1.tail p.2.tail) ∈ seen then some (seen, after)
    else some (seen ++ [keyOf (minL p.1.tail p.2.tail) (maxL p.1.tail p.2.tail)], after ++ if minL p.1.tail p.2.tail = [] then ws.map fun x => (x, maxL p.1.tail p.2.tail) else [(minL p.1.tail p.2.tail, maxL p.1.tail p.2.tail)])
  else some (seen, after)
theorem lvl_cons (ws : List (List Nat)) (p : PR) (r : List PR) (seen : List (List Nat)) (after : List PR) :
    lvl ws (p :: r) seen after = match lvl1 ws p seen after with | none => none | some (s', a') => lvl ws r s' a' := by
  obtain ⟨a, b⟩ := p
  rw [lvl, lvl1]
  dsimp only
  split
  · split
    · rfl
    · split <;> rfl
  · rfl

section
variable {w : World} {A : Around} {s : Shared} {ad : Nat → Addr} {mg mb : Str → Option Value} {B : Heap} {L a c l sn af I : Addr} {m : Str → Option Value} {led : List (Addr × Obj)} {ps : List WT}

theorem slice1 {E : Value → Shared → Prop} {m' : Str → Option Value} {B' : Heap} {x : Str} {p1 p2 p3 p4 : Pos} {y : List Nat} {t : Tok} {Q : Value → Shared → Prop} (F : Loc B' L s.heap m') (mx : m' x = some (.str (S y) t)) (hy : y ≠ []) (hz : y.length ≤ 100)
    (h : ∀ h' t' tk, Grown s.heap h' → Q (.str (S y.tail) t') { s with heap := h', toks := tk }) (hl : (envR L a c).kindOf x = some .local := by rfl) (hd : (x == ("__debug__" : Str)) = false := by decide) :
    wpAny (model P0 w) A (eval (.Subscript (.Name x p1) (.Slice (some (.Constant (.int 1) 0 p2)) none none p3) p4) (envR L a c)) Q E s := by
  refine sub_from (ldE F mx (wpAny_Constant_int ⟨y, t, 1, _, rfl, rfl, List.length_pos_iff.mpr hy, by omega, fun h' t' tk k => ?_⟩) rfl rfl hl hd)
  have e : y.tail = y.drop 1 := by cases y <;> rfl
  rw [← e]
  exact h h' t' _ k

set_option maxHeartbeats 8000000 in
theorem rd_turn {p : PR} {ta tb : Tok} {seen : List (List Nat)} {after : List PR} {size : Nat} {oI : Obj} {Q : Flow → Shared → Prop} (G : Gnd ad mg mb B) (R : Rm A 3) (hc : B.IsCell (L + 1) (some (.ref l))) (hl : B.IsList l (ps.map sv).toArray) (hn : ps.length ≤ 10)
    (F : Loc B L s.heap m) (N : News B L s.heap ((I, oI) :: led)) (hI : ∀ p ∈ led, p.1 ≠ I) (h1 : L + 2 ≠ sn) (h2 : L + 2 ≠ af) (h3 : sn ≠ af) (J : RJ w L sn af B m led seen after size)
    (ma : m "a" = some (.str (S p.1) ta)) (mb' : m "b" = some (.str (S p.2) tb)) (hp1 : p.1 ≠ []) (hp2 : p.2 ≠ []) (hl1 : p.1.length ≤ 100) (hl2 : p.2.length ≤ 100) (hsl : seen.length < 4000) (hal : after.length < 100000)
    (hret : lvl1 (ps.map (·.1)) p seen after = none → ∀ h' tk t, Grown B h' → Q (.ret (.int (size : Int) t)) { s with heap := h', toks := tk })
    (hnext : ∀ seen' after', lvl1 (ps.map (·.1)) p seen after = some (seen', after') → ∀ B' h' tk m' led', Grown B B' → Loc B' L h' m' → News B' L h' ((I, oI) :: led') → (∀ p ∈ led', p.1 ≠ I) → RJ w L sn af B' m' led' seen' after' size → Q .next { s with heap := h', toks := tk }) :
    wpAny (model P0 w) A (execs rdBody (envR L a c)) Q NoE s := by
  obtain ⟨oH, v0, oS, avs, k, ts, rfl, hoH, hoS, hav, mse, maf, msi⟩ := J
  refine wpAny_execs_cons (wpAny_If (wpAny_isTrue_Compare1 (head_item hp1 (ldE F ma ⟨⟨_, rfl⟩, fun t1 tk1 => head_item hp2 (ldE (by exact F) mb' ⟨⟨_, rfl⟩, fun t2 tk2 => PyProof.Rows.eq_str (wpAny_truthy_bool ?_)⟩)⟩))))
  have eh : (S [p.1.headD 0] == S [p.2.headD 0]) = decide (p.1.headD 0 = p.2.headD 0) := by
    rw [Bool.eq_iff_iff, beq_iff_eq, decide_eq_true_eq, S_inj]; simp
  rw [eh]
  unfold lvl1 at hret hnext
  by_cases hhd : p.1.headD 0 = p.2.headD 0
  · rw [if_pos (by simpa using hhd)]
    rw [if_pos hhd] at hret hnext
    refine wpAny_execs_cons (Assign_Tuple (tup_disp (spl2 ?_)))
    refine Call_Name2 (ldbE (by exact F) G boot_min (Calls.callWith_builtin rfl (Calls.evalArgs_plain (spliced_cons (slice1 (by exact F) ma hp1 hl1 fun h₁ t₁ tk₁ k₁ => ?_)))))
    have F₁ := F.grow k₁
    have N₁ := News.grow' N k₁
    refine spliced_cons (slice1 F₁ mb' hp2 hl2 fun h₂ t₂ tk₂ k₂ => spliced_nil (min2 R.handled fun h₃ tk₃ t₃ k₃ => ?_))
    have F₃ := (F₁.grow k₂).grow k₃
    have N₃ := News.grow' (News.grow' N₁ k₂) k₃
    refine Call_Name2 (ldbE F₃ G boot_max (Calls.callWith_builtin rfl (Calls.evalArgs_plain (spliced_cons (slice1 F₃ ma hp1 hl1 fun h₄ t₄ tk₄ k₄ => ?_)))))
    have F₄ := F₃.grow k₄
    have N₄ := News.grow' N₃ k₄
    refine spliced_cons (slice1 F₄ mb' hp2 hl2 fun h₅ t₅ tk₅ k₅ => spliced_nil (max2 R.handled fun h₆ tk₆ t₆ k₆ => ⟨by simp, fun h₇ T k₇ n₇ o₇ => ?_⟩))
    have F₇ := ((F₄.grow k₅).grow k₆).grow k₇
    have N₇ := News.grow' (News.grow' (News.grow' N₄ k₅) k₆) k₇
    refine unpack2 R.handled o₇ fun h₈ k₈ => ?_
    have F₈ := F₇.grow k₈
    have N₈ := News.grow' N₇ k₈
    refine stE F₈ N₈ fun h₉ tk₉ F₉ N₉ => stC (pre := [(I, oI)]) (c := L + 2) F₉ N₉ hoH ?_ ?_ fun h₁₀ oH' hoH' F₁₀ N₁₀ => ?_
    · intro p hp; simp only [List.mem_singleton] at hp; subst hp; exact (hI _ (.head _)).symm
    · intro p hp
      simp only [List.mem_cons, List.not_mem_nil, or_false] at hp
      rcases hp with rfl | rfl
      · exact h1.symm
      · exact h2.symm
    dsimp only at F₁₀ N₁₀ ⊢
    have hlowl : (minL p.1.tail p.2.tail).length ≤ 100 := by unfold minL; split <;> simp <;> omega
    have hhighl : (maxL p.1.tail p.2.tail).length ≤ 100 := by unfold maxL; split <;> simp <;> omega
    generalize hlow : minL p.1.tail p.2.tail = low at *
    generalize hhigh : maxL p.1.tail p.2.tail = high at *
    have hcH : ∀ {h : Heap}, Grown h₁₀ h → h.IsCell (L + 2) (some (.str (S high) t₆)) := fun g => ⟨oH', g _ _ (N₁₀.get (.tail _ (.head _))), hoH'⟩
    have g10 : Grown h₁₀ h₁₀ := fun _ _ e => e
    refine wpAny_execs_cons (wpAny_If (wpAny_isTrue_Compare1 (ldC (hcH g10) (wpAny_Constant_str (PyProof.Rows.eq_str (wpAny_truthy_bool ?_))))))
    rw [eq_nil_eq]
    by_cases hh0 : high = []
    · rw [if_pos (by simpa using hh0)]
      rw [if_pos hh0] at hret
      exact wpAny_execs_cons (wpAny_Return_some (ldE (by exact F₁₀) (by walk_at "lk") (hret rfl _ _ _ F₁₀.keep)))
    · rw [if_neg (by simpa using hh0)]
      rw [if_neg hh0] at hret hnext
      have edot : (Str.ofString ".") = S [46] := by decide +kernel
      have ekey : S low ++ Str.ofString "." ++ S high = S (keyOf low high) := by rw [edot, S_app, S_app]; rfl
      have hd1 : (S low).length + (Str.ofString ".").length ≤ sizeLine := by rw [edot, slen, slen]; exact line_ok (by simp; omega)
      have hd2 : (S low ++ Str.ofString ".").length + (S high).length ≤ sizeLine := by rw [edot, S_app, slen, slen]; exact line_ok (by simp; omega)
      refine wpAny_execs_nil (wpAny_execs_cons (wpAny_If (wpAny_isTrue_Compare1 (wpAny_BinOp (wpAny_BinOp (ldE (by exact F₁₀) (by walk_at "lk") (wpAny_Constant_str (PyProof.Rows.add_str (fun t' tk' => ldC (hcH g10) (PyProof.Rows.add_str (fun t'' tk'' => ?_) hd2)) hd1))))))))
      rw [ekey]
      refine ldE (by exact F₁₀) (by walk_at "lk") (set_notin (N₁₀.get (.tail _ (.tail _ (.head _)))) hoS fun tk₁₁ => wpAny_truthy_bool ?_)
      by_cases hin : keyOf low high ∈ seen
      · rw [if_neg (by simpa using hin)]
        rw [if_pos hin] at hnext
        refine wpAny_execs_nil (wpAny_execs_nil (wpAny_execs_nil ?_))
        exact hnext _ _ rfl B h₁₀ _ _ [(L + 2, oH'), (sn, oS), (af, listOf avs.toArray k)] (fun _ _ e => e) F₁₀ N₁₀ (fun p hp => by
          simp only [List.mem_cons, List.not_mem_nil, or_false] at hp
          rcases hp with rfl | rfl | rfl
          · exact hI (L + 2, oH) (.head _)
          · exact hI (sn, oS) (.tail _ (.head _))
          · exact hI (af, listOf avs.toArray k) (.tail _ (.tail _ (.head _)))) ⟨oH', _, oS, avs, k, ts, rfl, hoH', hoS, hav, by walk_at "lk", by walk_at "lk", by walk_at "lk"⟩
      · rw [if_pos (by simpa using hin)]
        rw [if_neg hin] at hnext
        refine wpAny_execs_cons (wpAny_Expr_any (MethodCall_ (ldE (by exact F₁₀) (by walk_at "lk") (getMethod_set_add (hoS.of (N₁₀.get (.tail _ (.tail _ (.head _))))) ?_))))
        refine Calls.callWith_builtin rfl (Calls.evalArgs_plain (spliced_cons ?_))
        refine wpAny_BinOp (wpAny_BinOp (ldE (by exact F₁₀) (by walk_at "lk") (wpAny_Constant_str (PyProof.Rows.add_str (fun t' tk' => ldC (hcH g10) (PyProof.Rows.add_str (fun t'' tk'' => ?_) hd2)) hd1))))
        rw [ekey]
        refine spliced_nil (set_add (N₁₀.get (.tail _ (.tail _ (.head _)))) hoS hin hsl fun h₁₁ tk₁₁ oS' s₁₁ oS₁₁ hoS' => ?_)
        have hsn := N₁₀ _ (.tail _ (.tail _ (.head _)))
        have F₁₁ := F₁₀.change s₁₁ hsn.2.1 hsn.2.2
        have hI2 : (L + 2, oH').1 ≠ I := hI (L + 2, oH) (.head _)
        have hIs : sn ≠ I := hI (sn, oS) (.tail _ (.head _))
        have hIa : af ≠ I := hI (af, listOf avs.toArray k) (.tail _ (.tail _ (.head _)))
        have N₁₁ : News B L h₁₁ [(I, oI), (L + 2, oH'), (sn, oS'), (af, listOf avs.toArray k)] := News.turn (pre := [(I, oI), (L + 2, oH')]) N₁₀ s₁₁ oS₁₁ (fun p hp => by
          simp only [List.mem_cons, List.not_mem_nil, or_false] at hp
          rcases hp with rfl | rfl
          · exact hIs.symm
          · exact h1) (fun p hp => by
          simp only [List.mem_cons, List.not_mem_nil, or_false] at hp
          subst hp; exact h3.symm)
        have hcH11 : h₁₁.IsCell (L + 2) (some (.str (S high) t₆)) := ⟨oH', N₁₁.get (.tail _ (.head _)), hoH'⟩
        dsimp only
        refine wpAny_execs_cons (wpAny_Expr_any (MethodCall_ (ldE (by exact F₁₁) (by walk_at "lk") (lmeth (li := avs) (n := k) (N₁₁.get (.tail _ (.tail _ (.tail _ (.head _))))) PySem.F.slot_list_extend PySem.F.type_list_extend ?_))))
        refine Calls.callWith_builtin rfl (Calls.evalArgs_plain (spliced_cons (IfExp_ (pos := ⟨142, 33, 142, 96⟩) (wpAny_isTrue_Compare1 (ldE (by exact F₁₁) (by walk_at "lk") (wpAny_Constant_str (PyProof.Rows.eq_str (wpAny_truthy_bool ?_))))))))
        rw [eq_nil_eq]
        have fin : ∀ (h₁₂ : Heap) (tk₁₂ : Nat) (D : Addr) (vs : List Value) (kD : Nat) (prs : List PR), Grown h₁₁ h₁₂ → h₁₁.get? D = none → h₁₂.get? D = some (listOf (List.toArray vs) kD) → PairsAre h₁₂ vs prs → (∀ v ∈ vs, ∀ b, v = .ref b → h₁₁.get? b = none) → prs.length ≤ 10 → (after ++ if low = [] then (ps.map (·.1)).map fun x => (x, high) else [(low, high)]) = after ++ prs →
            wpAny (model P0 w) A (call (.builtin "list.extend") [.ref af, .ref D]) (fun _ s' => Q .next s') NoE { s with heap := h₁₂, toks := tk₁₂ } := by
          intro h₁₂ tk₁₂ D vs kD prs g₁₂ nD oD hprs hfr hpl eprs
          have F₁₂ := F₁₁.grow g₁₂
          have N₁₂ := News.grow' N₁₁ g₁₂
          have haf := N₁₂ _ (.tail _ (.tail _ (.tail _ (.head _))))
          have hvl := hav.length
          have hpl' := hprs.length
          refine extend_to haf.1 oD (by omega) fun h₁₃ n₁₃ s₁₃ o₁₃ => ?_
          have F₁₃ := F₁₂.change s₁₃ haf.2.1 haf.2.2
          have N₁₃ : News B L h₁₃ [(I, oI), (L + 2, oH'), (sn, oS'), (af, listOf (avs ++ vs).toArray n₁₃)] := News.turn (pre := [(I, oI), (L + 2, oH'), (sn, oS')]) N₁₂ s₁₃ o₁₃ (fun p hp => by
            simp only [List.mem_cons, List.not_mem_nil, or_false] at hp
            rcases hp with rfl | rfl | rfl
            · exact hIa.symm
            · exact h2
            · exact h3) (fun p hp => noMem hp)
          obtain ⟨B', g', F', N', hin'⟩ := rebase F₁₃ N₁₃
          have hpr' : PairsAre B' vs prs := by
            have key : ∀ {us : List Value} {qs : List PR}, PairsAre h₁₂ us qs → (∀ v ∈ us, ∀ b, v = .ref b → h₁₁.get? b = none) → PairsAre B' us qs := by
              intro us qs hu
              induction hu with
              | nil => intro _; exact .nil
              | cons x y ih =>
                intro hf
                obtain ⟨T', t', u', rfl, oT⟩ := x
                have hT0 := hf _ (.head _) T' rfl
                obtain ⟨oL', oled⟩ := fresh_out F₁₁ N₁₁ hT0
                refine .cons ⟨T', t', u', rfl, hin' _ _ ((s₁₃.2 T' (fun q => ?_)).trans oT) oL' (fun p hp => ?_)⟩ (ih fun v hv => hf v (.tail _ hv))
                · exact oled (af, listOf avs.toArray k) (.tail _ (.tail _ (.tail _ (.head _)))) q.symm
                · simp only [List.mem_cons, List.not_mem_nil, or_false] at hp
                  rcases hp with rfl | rfl | rfl | rfl
                  · exact oled _ (.head _)
                  · exact oled _ (.tail _ (.head _))
                  · exact oled _ (.tail _ (.tail _ (.head _)))
                  · exact oled (af, listOf avs.toArray k) (.tail _ (.tail _ (.tail _ (.head _))))
            exact key hprs hfr
          refine hnext _ _ rfl B' h₁₃ _ _ [(L + 2, oH'), (sn, oS'), (af, listOf (avs ++ vs).toArray n₁₃)] g' F' N' (fun p hp => by
            simp only [List.mem_cons, List.not_mem_nil, or_false] at hp
            rcases hp with rfl | rfl | rfl
            · exact hI2
            · exact hIs
            · exact hIa) ⟨oH', _, oS', avs ++ vs, n₁₃, ts, rfl, hoH', hoS', ?_, by walk_at "lk", by walk_at "lk", by walk_at "lk"⟩
          rw [eprs]
          exact (hav.keeps g').append hpr'
        by_cases hl0 : low = []
        · rw [if_pos (by simpa using hl0)]
          refine wh_comp R.handled ((hc.keeps F₁₁.keep)) hcH11 (F₁₁.lst hl) hn fun h₁₂ tk₁₂ D vs kD g₁₂ nD oD hprs hfr => spliced_nil ?_
          exact wpAny_mono (fin h₁₂ tk₁₂ D vs kD _ g₁₂ nD oD hprs hfr (by simpa using hn) (by rw [if_pos hl0])) (fun _ _ q => wpAny_execs_nil (wpAny_execs_nil (wpAny_execs_nil q))) fun _ _ q => q
        · rw [if_neg (by simpa using hl0)]
          refine list_disp (spl1 (tup_disp (spl2 (ldE (by exact F₁₁) (by walk_at "lk") (ldC hcH11 ⟨by simp, fun h₁₂ T k₁₂ n₁₂ o₁₂ => ⟨by simp, fun h₁₃ D k₁₃ n₁₃ o₁₃ => spliced_nil ?_⟩⟩)))))
          refine wpAny_mono (fin h₁₃ _ D _ 0 [(low, high)] (Grown.trans k₁₂ k₁₃) ?_ o₁₃ (.cons ⟨T, _, _, rfl, k₁₃ _ _ o₁₂⟩ .nil) ?_ (by simp) (by rw [if_neg hl0])) (fun _ _ q => wpAny_execs_nil (wpAny_execs_nil (wpAny_execs_nil q))) fun _ _ q => q
          · cases e : h₁₁.get? D with
            | none => rfl
            | some o => rw [k₁₂ _ _ e] at n₁₃; cases n₁₃
          · intro v hv b hb
            simp only [List.mem_singleton] at hv
            rw [hv] at hb
            cases hb
            exact n₁₂
  · rw [if_neg (by simpa using hhd)]
    rw [if_neg hhd] at hnext
    refine wpAny_execs_nil (wpAny_execs_nil ?_)
    exact hnext _ _ rfl B s.heap _ m _ (fun _ _ e => e) F N hI ⟨oH, v0, oS, avs, k, ts, rfl, hoH, hoS, hav, mse, maf, msi⟩
end
end Mine

namespace Mine
local macro_rules | `(tactic| walk_at "lk") => `(tactic| first | with_reducible assumption | exact upd_self | (refine (upd_ne (by decide)).trans ?_; walk_at "lk") | exact rfl)

noncomputable def PairOk (p : PR) : Prop := p.1 ≠ [] ∧ p.2 ≠ [] ∧ p.1.length ≤ 100 ∧ p.2.length ≤ 100

theorem lvl1_ok {ws : List (List Nat)} {p : PR} {seen seen' : List (List Nat)} {after after' : List PR} (hw : ∀ x ∈ ws, x ≠ [] ∧ x.length ≤ 100) (hn : ws.length ≤ 10) (hp : PairOk p) (ha : ∀ q ∈ after, PairOk q) (h : lvl1 ws p seen after = some (seen', after')) :
    (∀ q ∈ after', PairOk q) ∧ seen'.length ≤ seen.length + 1 ∧ after'.length ≤ after.length + 10 := by
  obtain ⟨h1, h2, h3, h4⟩ := hp
  unfold lvl1 at h
  have hl : (minL p.1.tail p.2.tail).length ≤ 100 := by unfold minL; split <;> simp <;> omega
  have hh : (maxL p.1.tail p.2.tail).length ≤ 100 := by unfold maxL; split <;> simp <;> omega
  split at h
  · split at h
    · cases h
    · rename_i hh0
      split at h
      · cases h; exact ⟨ha, by omega, by omega⟩
      · cases h
        refine ⟨fun q hq => ?_, by simp, ?_⟩
        · rcases List.mem_append.mp hq with hq | hq
          · exact ha q hq
          · split at hq
            · obtain ⟨x, hx, rfl⟩ := List.mem_map.mp hq
              exact ⟨(hw x hx).1, hh0, (hw x hx).2, hh⟩
            · rename_i hl0
              simp only [List.mem_singleton] at hq
              subst hq
              exact ⟨hl0, hh0, hl, hh⟩
        · rw [List.length_append]
          split <;> simp <;> omega
  · cases h; exact ⟨ha, by omega, by omega⟩

theorem pairs0_ok {ws : List (List Nat)} (hw : ∀ x ∈ ws, x ≠ [] ∧ x.length ≤ 100) : ∀ q ∈ pairs0 ws, PairOk q := fun q hq => by
  unfold pairs0 at hq
  obtain ⟨x, hx, hq⟩ := List.mem_flatMap.mp hq
  obtain ⟨y, hy, rfl⟩ := List.mem_map.mp hq
  have hy' := (List.mem_filter.mp hy).1
  exact ⟨(hw x hx).1, (hw y hy').1, (hw x hx).2, (hw y hy').2⟩
theorem pairs0_len {ws : List (List Nat)} (hn : ws.length ≤ 10) : (pairs0 ws).length ≤ 100 := by
  unfold pairs0
  have key : ∀ l : List (List Nat), (l.flatMap fun a => (ws.filter fun b => decide (a < b)).map fun b => (a, b)).length ≤ 10 * l.length := by
    intro l
    induction l with
    | nil => simp
    | cons a r ih =>
      rw [List.flatMap_cons, List.length_append, List.length_map, List.length_cons]
      have := List.length_filter_le (fun b => decide (a < b)) ws
      omega
  have := key ws
  omega

theorem pairs_base {B' h : Heap} (k : ∀ T its, h.get? T = some (tupOf its) → B'.get? T = some (tupOf its)) : ∀ {vs : List Value} {prs : List PR}, PairsAre h vs prs → PairsAre B' vs prs := by
  intro vs prs x
  induction x with
  | nil => exact .nil
  | cons a y ih =>
    obtain ⟨T, t, u, e, o⟩ := a
    exact .cons ⟨T, t, u, e, k _ _ o⟩ ih
theorem ns_ne {h : Heap} {L T : Addr} {m : Str → Option Value} {its : Array Value} (hn : h.Ns L m) (o : h.get? T = some (tupOf its)) : T ≠ L := fun q => by
  obtain ⟨oL, es, ep, e, hd, _⟩ := hn
  rw [q, e] at o; cases o; cases hd

inductive WI (w : World) (s : Shared) (ps : List WT) (B₂ : Heap) (L sn : Addr) (res : Nat) (n : Nat) (s' : Shared) : Prop
  | mk : ∀ B' h' tk m' oH v0 oS D vs k prs seen size ts, s' = { s with heap := h', toks := tk } → Grown B₂ B' → Loc B' L h' m' → News B' L h' [(L + 2, oH), (sn, oS)] → oH.data = .cell v0 → SetOb w oS seen →
      B'.get? D = some (listOf (List.toArray vs) k) → PairsAre B' vs prs → (∀ q ∈ prs, PairOk q) → prs.length < 2000 → seen.length < 2000 → m' "level" = some (.ref D) → m' "seen" = some (.ref sn) → m' "size" = some (.int ((size : Nat) : Int) ts) → readL (ps.map (·.1)) n prs seen size = some res →
      WI w s ps B₂ L sn res n s'
inductive LI (w : World) (ps : List WT) (prs : List PR) (seen : List (List Nat)) (L sn af : Addr) (size i : Nat) (B'' : Heap) (m'' : Str → Option Value) (led'' : List (Addr × Obj)) : Prop
  | mk : ∀ seen' after, RJ w L sn af B'' m'' led'' seen' after (size + 1) → lvl (ps.map (·.1)) (prs.drop i) seen' after = lvl (ps.map (·.1)) prs seen [] → (∀ q ∈ after, PairOk q) → seen'.length ≤ seen.length + i → after.length ≤ 10 * i → LI w ps prs seen L sn af size i B'' m'' led''

set_option maxHeartbeats 8000000 in
theorem readers_call {w : World} {A : Around} {E : Value → Shared → Prop} {s : Shared} {l : Addr} {ad : Nat → Addr} {mg mb : Str → Option Value} {ps : List WT} {fuel res : Nat} {Q : Value → Shared → Prop}
    (G : Gnd ad mg mb s.heap) (R : Rm A 4) (hl : s.heap.IsList l (ps.map sv).toArray) (hn : ps.length ≤ 10) (hw : ∀ p ∈ ps, p.1 ≠ [] ∧ p.1.length ≤ 100) (hres : readL (ps.map (·.1)) fuel (pairs0 (ps.map (·.1))) [] 0 = some res)
    (h : ∀ h' tk t, Grown s.heap h' → Q (.int (res : Int) t) { s with heap := h', toks := tk }) :
    wpAny (model P0 w) A (call (.ref (ad 24)) [.ref l] []) Q E s := by
  obtain ⟨_, pm, c, doc, hf1, hf2⟩ := G.fnOf 24 "_law_readers" (by decide)
  have hQ : ∀ (r : Nat) h' tk t, r = res → Grown s.heap h' → Q (.int (r : Int) t) { s with heap := h', toks := tk } := fun r h' tk t e k => e ▸ h h' tk t k
  refine enterC (c := c) (binds := [("code", .ref l)]) ⟨pm, doc, hf1, hf2⟩ G.nolimit R.d (fun _ _ => rfl) (fun n y hy => by
      simp only [List.mem_singleton] at hy; subst hy; exact .inr ⟨rfl, rfl⟩) fun h₁ tk₁ F₀ hcell => ?_
  replace R := R.deep (envOfC "_law_readers" (sco 24) s.heap.objs.size (ad 24) (.ref c))
  generalize hL : s.heap.objs.size = L at *
  obtain ⟨hc1, hc1'⟩ := hcell "code" (L + 1) rfl
  obtain ⟨⟨oH, hoH, hdH⟩, hc2'⟩ := hcell "high" (L + 2) rfl
  have N₀ : News s.heap L h₁ [(L + 2, oH)] := by
    intro p hp
    simp only [List.mem_singleton] at hp; subst hp
    exact ⟨hoH, Nat.ne_of_gt hc2', get_above (by rw [hL]; exact Nat.le_add_right _ _)⟩
  obtain ⟨B₁, g₁, F, N, hin₁⟩ := rebase F₀ N₀
  have hcB : B₁.IsCell (L + 1) (some (.ref l)) := by
    obtain ⟨oc, ho, hd⟩ := hc1
    refine ⟨oc, hin₁ _ _ ho (Nat.ne_of_gt hc1') ?_, hd⟩
    intro p hp q
    simp only [List.mem_singleton] at hp; subst hp
    exact absurd q (Nat.ne_of_gt (Nat.lt_succ_self _))
  have hlB : B₁.IsList l (ps.map sv).toArray := listK hl (g₁)
  have hws : ∀ x ∈ ps.map (·.1), x ≠ [] ∧ x.length ≤ 100 := fun x hx => by
    obtain ⟨p, hp, rfl⟩ := List.mem_map.mp hx
    exact hw p hp
  have hwn : (ps.map (·.1)).length ≤ 10 := by simpa using hn
  replace G := G.keeps g₁
  refine wpAny_execs_cons (asg3 R.handled (spl3 (pairs_comp R.handled F.keep hcB hlB hn fun h₂ tk₂ D vs k k₂ nD oD hprs => ?_)))
  have F₂ := F.grow k₂
  have N₂ := News.grow' N k₂
  obtain ⟨B₂, g₂, F₂', N₂', hin₂⟩ := rebase F₂ N₂
  have hprB : PairsAre B₂ vs (pairs0 (ps.map (·.1))) := pairs_base (fun T its o => hin₂ _ _ o (ns_ne F₂.ns o) fun p hp q => by
    simp only [List.mem_singleton] at hp; subst hp
    have := N₂.get (.head _)
    have q' : L + 2 = T := q
    rw [q', o] at this; cases this; cases hdH) hprs
  have hDB : B₂.get? D = some (listOf vs.toArray k) := hin₂ _ _ oD (fresh_out F N nD).1 (fresh_out F N nD).2
  replace hcB := hcB.keeps g₂
  replace hlB : B₂.IsList l (ps.map sv).toArray := listK hlB (g₂)
  replace G := G.keeps g₂
  have gsB : Grown s.heap B₂ := Grown.trans g₁ g₂
  refine Call_Name0 (ldbE F₂' G boot_set (PyProof.Rows.callWith_type rfl (PyProof.Rows.evalArgs_none (set_new fun h₃ sn oS k₃ n₃ o₃ hS => wpAny_Constant_int ⟨_, _, _, rfl, fun h₄ k₄ => ?_⟩))))
  have F₃ := F₂'.grow k₃
  have N₃ := News.join F₂' N₂' k₃ n₃ o₃
  have out3 := (fresh_out F₂' N₂' n₃).2
  have h1 : L + 2 ≠ sn := out3 _ (.head _)
  have F₄ := F₃.grow k₄
  have N₄ : News B₂ L h₄ [(L + 2, oH), (sn, oS)] := News.sub (News.grow' N₃ k₄) fun p hp => by
    simp only [List.mem_cons, List.not_mem_nil, or_false] at hp ⊢
    exact hp.symm
  refine stE F₄ N₄ fun h₅ _ F₅ N₅ => stE F₅ N₅ fun h₆ _ F₆ N₆ => stE F₆ N₆ fun h₇ tk₇ F₇ N₇ => wpAny_execs_cons ?_
  dsimp only at F₇ N₇ ⊢
  have hp0 := pairs0_len hwn
  refine while_gen (WI w s ps B₂ L sn res)
    (n := fuel) ⟨B₂, h₇, tk₇, _, oH, _, oS, D, vs, k, _, [], 0, _, rfl, fun _ _ e => e, F₇, N₇, hdH, hS, hDB, hprB, pairs0_ok hws, by omega, by simp, by walk_at "lk", by walk_at "lk", by walk_at "lk", hres⟩ ?_
  rintro n s' ⟨B', h', tk, m', oH, v0, oS, D, vs, k, prs, seen, size, ts, rfl, g', F', N', hdH', hoS, hD, hpr, hok, hpl, hsl, ml, ms, mz, hrd⟩
  have hvl := hpr.length
  refine isTrue_val (ldE F' ml (wpAny_truthy_list ⟨_, F'.keep _ _ hD, rfl, _, rfl⟩ (by simp; omega) ?_)) rfl
  cases n with
  | zero => cases hrd
  | succ n =>
  rw [readL] at hrd
  by_cases hp : prs = []
  · subst hp
    have hv : vs = [] := List.length_eq_zero_iff.mp (by simpa using hvl)
    subst hv
    rw [if_neg (by simp)]
    rw [if_pos rfl] at hrd
    refine wpAny_execs_cons (wpAny_Return_some (wpAny_Constant_int ?_))
    exact hQ 0 _ _ _ (Option.some.inj hrd) (Grown.trans gsB (Grown.trans g' F'.keep))
  · have hv : vs ≠ [] := fun q => hp (List.length_eq_zero_iff.mp (by rw [← hvl, q]; rfl))
    rw [if_pos (by simpa using hv)]
    rw [if_neg hp] at hrd
    refine wpAny_execs_cons (wpAny_AugAssign_Name (ldnE (by exact F') mz (wpAny_Constant_int (wpAny_iadd_int (stE (by exact F') (by exact N') fun h₈ tk₈ F₈ N₈ => ?_)))))
    dsimp only at F₈ N₈ ⊢
    refine wpAny_execs_cons (wpAny_Assign_Name (list_disp (spliced_nil ⟨by simp, fun h₉ af k₉ n₉ o₉ => ?_⟩)))
    have F₉ := F₈.grow k₉
    have out9 := (fresh_out F₈ N₈ n₉).2
    have h2 : L + 2 ≠ af := out9 _ (.head _)
    have h3 : sn ≠ af := out9 _ (.tail _ (.head _))
    have N₉ : News B' L h₉ [(L + 2, oH), (sn, oS), (af, listOf ([] : List Value).toArray 0)] := News.sub (News.join F₈ N₈ k₉ n₉ o₉) fun p hp => by
      simp only [List.mem_cons, List.not_mem_nil, or_false] at hp ⊢
      rcases hp with h | h | h
      · exact .inr (.inl h)
      · exact .inr (.inr h)
      · exact .inl h
    refine stE F₉ N₉ fun h₁₀ tk₁₀ F₁₀ N₁₀ => wpAny_execs_cons (wpAny_For (ldE (by exact F₁₀) (by walk_at "lk") (iter_list (l := D) (items := vs.toArray) ⟨_, F₁₀.keep _ _ hD, rfl, _, rfl⟩ fun h₁₁ I oI k₁₁ n₁₁ o₁₁ hO => ?_)))
    dsimp only at F₁₀ N₁₀ ⊢
    have F₁₁ := F₁₀.grow k₁₁
    have N₁₁ := News.join F₁₀ N₁₀ k₁₁ n₁₁ o₁₁
    have out11 := (fresh_out F₁₀ N₁₀ n₁₁).2
    refine for_it (Iter.list R.handled I D vs.toArray) (fun h k => ⟨_, k _ _ hD, rfl, _, rfl⟩)
      (fun i B'' m'' led'' => LI w ps prs seen L sn af size i B'' m'' led'')
      F₁₁ N₁₁ out11 hO ⟨seen, [], ⟨oH, v0, oS, [], 0, _, rfl, hdH', hoS, .nil, by walk_at "lk", by walk_at "lk", by walk_at "lk"⟩, rfl, by simp, by omega, by simp⟩ ?_ ?_ ?_
    · rintro i v B'' h₁₂ tk₁₂ m₁₂ led₁₂ o₁₂ hi hv g₁₂ F₁₂ N₁₂ hnd₁₂ ⟨seen', after, J, hlv, hok', hsl', hal'⟩
      have hi' : i < vs.length := by simpa using hi
      have hip : i < prs.length := by omega
      have hv' : v = vs[i] := by simpa [hi'] using hv.symm
      subst hv'
      obtain ⟨T, t, u, eT, oT⟩ := hpr.get i hi' hip
      rw [eT]
      refine unpack2 R.handled (F₁₂.keep _ _ (g₁₂ _ _ oT)) fun h₁₃ k₁₃ => ?_
      have F₁₃ := F₁₂.grow k₁₃
      have N₁₃ := News.grow' N₁₂ k₁₃
      refine stE F₁₃ N₁₃ fun h₁₄ tk₁₄ F₁₄ N₁₄ => stE F₁₄ N₁₄ fun h₁₅ tk₁₅ F₁₅ N₁₅ => ?_
      dsimp only at F₁₅ N₁₅ ⊢
      have hpk := hok prs[i] (List.getElem_mem hip)
      have hdrop : prs.drop i = prs[i] :: prs.drop (i + 1) := List.drop_eq_getElem_cons hip
      rw [hdrop, lvl_cons] at hlv
      have gB : Grown B₂ B'' := Grown.trans g' g₁₂
      refine rd_turn (p := prs[i]) (ps := ps) (G.keeps gB) R (hcB.keeps gB) (listK hlB (gB)) hn F₁₅ N₁₅ hnd₁₂ h1 h2 h3 (seen := seen') (after := after) (size := size + 1) ?_ ((upd_ne (by decide)).trans upd_self) upd_self hpk.1 hpk.2.1 hpk.2.2.1 hpk.2.2.2 (by omega) (by omega) ?_ ?_
      · obtain ⟨oH₁, v₁, oS₁, avs, kk, ts₁, e1, e2, e3, e4, e5, e6, e7⟩ := J
        exact ⟨oH₁, v₁, oS₁, avs, kk, ts₁, e1, e2, e3, e4, by walk_at "lk", by walk_at "lk", by walk_at "lk"⟩
      · intro hnone h₁₆ tk₁₆ t₁₆ g₁₆
        rw [hnone] at hlv
        rw [← hlv] at hrd
        exact hQ (size + 1) _ _ _ (Option.some.inj hrd) (Grown.trans gsB (Grown.trans gB g₁₆))
      · intro seen₂ after₂ hsome B₃ h₁₆ tk₁₆ m₁₆ led₁₆ g₁₆ F₁₆ N₁₆ hnd₁₆ J₁₆
        rw [hsome] at hlv
        obtain ⟨q1, q2, q3⟩ := lvl1_ok hws hwn hpk hok' hsome
        exact ⟨B₃, h₁₆, tk₁₆, m₁₆, led₁₆, rfl, g₁₆, F₁₆, N₁₆, hnd₁₆, ⟨seen₂, after₂, J₁₆, hlv, q1, by omega, by omega⟩⟩
    · rintro B'' h₁₂ tk₁₂ m₁₂ led₁₂ g₁₂ F₁₂ N₁₂ ⟨seen', after, J, hlv, hok', hsl', hal'⟩
      obtain ⟨oH₁, v₁, oS₁, avs, kk, ts₁, rfl, e2, e3, e4, e5, e6, e7⟩ := J
      have hend : prs.drop vs.toArray.size = [] := List.drop_of_length_le (by simp; omega)
      rw [hend, lvl] at hlv
      rw [← hlv] at hrd
      dsimp only at hrd
      split at hrd
      · rename_i hg
        refine wpAny_execs_cons (wpAny_Assign_Name (ldE F₁₂ e6 (stE F₁₂ N₁₂ fun h₁₃ tk₁₃ F₁₃ N₁₃ => wpAny_execs_nil ?_)))
        dsimp only at F₁₃ N₁₃ ⊢
        have N₁₃' : News B'' L h₁₃ [(L + 2, oH₁), (sn, oS₁)] := News.sub N₁₃ fun p hp => by
          simp only [List.mem_cons, List.not_mem_nil, or_false] at hp ⊢
          rcases hp with h | h
          · exact .inl h
          · exact .inr (.inl h)
        obtain ⟨B₃, g₃, F₃', N₃', hin₃⟩ := rebase F₁₃ N₁₃'
        have haf := N₁₃ _ (.tail _ (.tail _ (.head _)))
        refine ⟨n, Nat.lt_succ_self _, B₃, h₁₃, tk₁₃, _, oH₁, v₁, oS₁, af, avs, kk, after, seen', size + 1, ts₁, rfl, Grown.trans g' (Grown.trans g₁₂ g₃), F₃', N₃', e2, e3, hin₃ _ _ haf.1 haf.2.1 ?_, e4.keeps g₃, hok', hg.2, hg.1, by walk_at "lk", by walk_at "lk", by walk_at "lk", hrd⟩
        intro p hp
        simp only [List.mem_cons, List.not_mem_nil, or_false] at hp
        rcases hp with rfl | rfl
        · exact h2
        · exact h3
      · cases hrd
    · intro i s' v Q' E' o' ho hO' hP hi hq
      have hP' : vs[i - 1]? = some v := by simpa using hP
      obtain ⟨hlt, hvi⟩ := List.getElem?_eq_some_iff.mp hP'
      obtain ⟨T, t, u, eT, oT⟩ := hpr.get (i - 1) hlt (by omega)
      rw [← hvi, eT]
      exact wpAny_letOwnedTupleGo_listiter ⟨o', ho, hO'⟩ hq
end Mine

namespace Mine
local macro_rules | `(tactic| walk_at "lk") => `(tactic| first | with_reducible assumption | exact upd_self | (refine (upd_ne (by decide)).trans ?_; walk_at "lk") | exact rfl)

section
variable {w : World} {A : Around} {E : Value → Shared → Prop} {s : Shared} {ad : Nat → Addr} {mg mb : Str → Option Value}
theorem inb1_call {x : Nat} {t : Tok} {Q : Value → Shared → Prop} (G : Gnd ad mg mb s.heap) (R : Rm A 1) (hx : x < 0x110000) (h : ∀ h' tk, Grown s.heap h' → Q (.bool (b1b x)) { s with heap := h', toks := tk }) :
    wpAny (model P0 w) A (call (.ref (ad 6)) [.str (S [x]) t] []) Q E s := by
  obtain ⟨_, hf⟩ := G.fnOf 6 "in_table_b1" (by decide)
  refine enter (binds := [("code", .str (S [x]) t)]) hf G.nolimit R.d (fun _ _ _ => BindsTo.of_eq rfl) fun h₁ cd hns hk => ?_
  have F := Loc.start hns hk
  replace R := R.deep (envOf "in_table_b1" (sco 6) s.heap.objs.size (ad 6) cd)
  refine wpAny_execs_cons (wpAny_Return_some (wpAny_Compare1 (Call_Name1 (ldb F G boot_ord (callWith_builtin1 (ldv F rfl (PySem.P.ord_of_char (ldg (by exact F) G G.b1.1 ?_))))))))
  exact G.b1.2 w _ _ _ _ x _ F.keep R hx fun h' tk k => h h' tk (Grown.trans F.keep k)
theorem inc9_call {x : Nat} {t : Tok} {Q : Value → Shared → Prop} (G : Gnd ad mg mb s.heap) (R : Rm A 1) (hx : x < 0x110000) (h : ∀ h' tk, Grown s.heap h' → Q (.bool (c9b x)) { s with heap := h', toks := tk }) :
    wpAny (model P0 w) A (call (.ref (ad 10)) [.str (S [x]) t] []) Q E s := by
  obtain ⟨_, hf⟩ := G.fnOf 10 "in_table_c9" (by decide)
  refine enter (binds := [("code", .str (S [x]) t)]) hf G.nolimit R.d (fun _ _ _ => BindsTo.of_eq rfl) fun h₁ cd hns hk => ?_
  have F := Loc.start hns hk
  replace R := R.deep (envOf "in_table_c9" (sco 10) s.heap.objs.size (ad 10) cd)
  refine wpAny_execs_cons (wpAny_Return_some (wpAny_Compare1 (Call_Name1 (ldb F G boot_ord (callWith_builtin1 (ldv F rfl (PySem.P.ord_of_char (ldg (by exact F) G G.c9.1 ?_))))))))
  exact G.c9.2 w _ _ _ _ x _ F.keep R hx fun h' tk k => h h' tk (Grown.trans F.keep k)

noncomputable def foldTo (c : Nat) (r : Option (List Nat)) : List Nat := r.getD [c + 32]

theorem lower70 : Txt.lower (S [70]) = S [102] := by decide +kernel
theorem lower73 : Txt.lower (S [73]) = S [105] := by decide +kernel
theorem b3_none {x : Nat} (h : (x, (none : Option (List Nat))) ∈ b3L) : x = 70 ∨ x = 73 := by
  simp [b3L] at h
  exact h

theorem map_call {x : Nat} {r : Option (List Nat)} {t : Tok} {Q : Value → Shared → Prop} (G : Gnd ad mg mb s.heap) (R : Rm A 1) (hx : (x, r) ∈ b3L) (h : ∀ h' tk t', Grown s.heap h' → Q (.str (S (foldTo x r)) t') { s with heap := h', toks := tk }) :
    wpAny (model P0 w) A (call (.ref (ad 8)) [.str (S [x]) t] []) Q E s := by
  obtain ⟨_, hf⟩ := G.fnOf 8 "map_table_b3" (by decide)
  refine enter (binds := [("code", .str (S [x]) t)]) hf G.nolimit R.d (fun _ _ _ => BindsTo.of_eq rfl) fun h₁ cd hns hk => ?_
  have F := Loc.start hns hk
  replace R := R.deep (envOf "map_table_b3" (sco 8) s.heap.objs.size (ad 8) cd)
  obtain ⟨e7, ⟨o, ho, hcls, hdict⟩, hget⟩ := G.b3
  refine wpAny_execs_cons (wpAny_Assign_Name (MethodCall_ (ldg F G e7 (getMethod_builtin ⟨_, F.keep _ _ ho, hcls⟩ PySem.F.plainAttrs_dict PySem.F.slot_dict_get PySem.F.type_dict_get (fun b e => by cases e; exact ⟨_, F.keep _ _ ho, hdict⟩) ?_))))
  refine Calls.callWith_builtin rfl (Calls.evalArgs_plain (spliced_cons (Call_Name1 (ldb F G boot_ord (callWith_builtin1 (ldv F rfl (PySem.P.ord_of_char (spliced_nil ?_))))))))
  refine hget w _ _ _ _ x r _ F.keep R hx fun v h₂ tk₂ k₂ hv => ?_
  have F₂ := F.grow k₂
  refine stv F₂ News.nil fun h₃ tk₃ F₃ _ => ?_
  dsimp only at F₃ ⊢
  cases r with
  | none =>
    have hv' : v = .none := hv
    subst hv'
    refine wpAny_execs_cons (wpAny_If (wpAny_isTrue_Compare1 (ldv F₃ upd_self (wpAny_Constant_none (isnot_none_none (wpAny_truthy_bool ?_))))))
    rw [if_neg Bool.false_ne_true]
    refine wpAny_execs_nil (wpAny_execs_cons (wpAny_Return_some (Call_method0 rfl rfl (ldv F₃ (by walk_at "lk") (SBL.lower (by rw [slen]; show 1 ≤ 5592405; decide) fun _ => ?_)))))
    rcases b3_none hx with rfl | rfl
    · rw [lower70]; exact h _ _ _ F₃.keep
    · rw [lower73]; exact h _ _ _ F₃.keep
  | some y =>
    obtain ⟨ty, rfl⟩ := hv
    refine wpAny_execs_cons (wpAny_If (wpAny_isTrue_Compare1 (ldv F₃ upd_self (wpAny_Constant_none (isnot_str_none (wpAny_truthy_bool ?_))))))
    rw [if_pos rfl]
    exact wpAny_execs_cons (wpAny_Return_some (ldv F₃ upd_self (h _ _ _ F₃.keep)))
end
end Mine

namespace Mine
local macro_rules | `(tactic| walk_at "lk") => `(tactic| first | with_reducible assumption | exact upd_self | (refine (upd_ne (by decide)).trans ?_; walk_at "lk") | exact rfl)

noncomputable def b3of (c : Nat) : Option (List Nat) := ((b3L.find? fun p => p.1 == c).map (·.2)).join
noncomputable def stepW (st : List (List Nat) × List Nat) (c : Nat) : List (List Nat) × List Nat :=
  if c9b c then (st.1 ++ [st.2], []) else if b1b c then st else (st.1, st.2 ++ foldTo c (b3of c))
noncomputable def wordsL (book : List Nat) : List (List Nat) := let st := book.foldl stepW ([], []); if st.2 = [] then st.1 else []
noncomputable def SignOk (c : Nat) : Prop := c < 0x110000 ∧ (c9b c = true ∨ b1b c = true ∨ (c, b3of c) ∈ b3L)

theorem foldl_take {α : Type} (f : α → Nat → α) (a : α) (l : List Nat) (i : Nat) (h : i < l.length) : (l.take (i + 1)).foldl f a = f ((l.take i).foldl f a) l[i] := by
  rw [List.take_add_one, List.getElem?_eq_getElem h, List.foldl_append]; rfl

inductive WdI (r : Addr) (st : List (List Nat) × List Nat) (i : Nat) (m' : Str → Option Value) (led' : List (Addr × Obj)) : Prop
  | mk : ∀ ps n t, led' = [(r, listOf (List.map sv ps).toArray n)] → ps.map (·.1) = st.1 → m' "words" = some (.ref r) → m' "word" = some (.str (S st.2) t) → ps.length ≤ i → st.2.length ≤ 3 * i → WdI r st i m' led'

set_option maxHeartbeats 4000000 in
theorem words_call {w : World} {A : Around} {E : Value → Shared → Prop} {s : Shared} {ad : Nat → Addr} {mg mb : Str → Option Value} {book : List Nat} {tb : Tok} {Q : Value → Shared → Prop}
    (G : Gnd ad mg mb s.heap) (R : Rm A 2) (hb : ∀ c ∈ book, SignOk c) (hl : book.length < 1000)
    (h : ∀ h' tk r ps n, Grown s.heap h' → s.heap.get? r = none → h'.get? r = some (listOf (List.map sv ps).toArray n) → ps.map (·.1) = wordsL book → Q (.ref r) { s with heap := h', toks := tk }) :
    wpAny (model P0 w) A (call (.ref (ad 18)) [.str (S book) tb] []) Q E s := by
  obtain ⟨_, hf⟩ := G.fnOf 18 "_law_words" (by decide)
  refine enter (binds := [("book", .str (S book) tb)]) hf G.nolimit R.d (fun _ _ _ => BindsTo.of_eq rfl) fun h₁ cd hns hk => ?_
  have F := Loc.start hns hk
  replace R := R.deep (envOf "_law_words" (sco 18) s.heap.objs.size (ad 18) cd)
  obtain ⟨e9, hf9⟩ := G.fnOf 10 "in_table_c9" (by decide)
  obtain ⟨e1, hf1⟩ := G.fnOf 6 "in_table_b1" (by decide)
  obtain ⟨e3, hf3⟩ := G.fnOf 8 "map_table_b3" (by decide)
  refine wpAny_execs_cons (asg2 R.handled (spl2 (list_disp (spliced_nil ⟨by simp, fun h₂ r k₂ n₂ o₂ => wpAny_Constant_str ⟨_, _, rfl, fun h₃ k₃ => ?_⟩⟩))))
  have F₂ := F.grow k₂
  have N₂ := News.join F (News.nil (L := s.heap.objs.size)) k₂ n₂ o₂
  have F₃ := F₂.grow k₃
  have N₃ := News.grow' N₂ k₃
  refine stv F₃ N₃ fun h₄ _ F₄ N₄ => stv F₄ N₄ fun h₅ tk₅ F₅ N₅ => wpAny_execs_cons (wpAny_For (ldv (by exact F₅) (by walk_at "lk") (iter_str fun h₆ I o k₆ n₆ o₆ hO => ?_)))
  dsimp only at F₅ N₅ ⊢
  have F₆ := F₅.grow k₆
  have N₆ := News.join F₅ N₅ k₆ n₆ o₆
  have out6 := (fresh_out F₅ N₅ n₆).2
  have hr0 : s.heap.get? r = none := (N₅ _ (.head _)).2.2
  refine for_it (Iter.str R.handled I (S book) tb) (fun _ _ => trivial)
    (fun i B' m' led' => WdI r ((book.take i).foldl stepW ([], [])) i m' led')
    F₆ N₆ out6 hO ⟨[], 0, _, rfl, rfl, by walk_at "lk", by walk_at "lk", by simp, by simp⟩ ?_ ?_ ?_
  · rintro i v B' h' tk' m' led' o' hi ⟨c, u, hc, rfl⟩ gB F' N' hnd' ⟨ps, n, t, rfl, eps, mw, mo, hpl, hol⟩
    have hi' : i < book.length := by simpa using hi
    have ec : book[i] = c := by
      have : book[i]? = some c := by simpa using hc
      rw [List.getElem?_eq_getElem hi'] at this; exact Option.some.inj this
    obtain ⟨hcl, hck⟩ := hb c (ec ▸ List.getElem_mem hi')
    have G' := G.keeps gB
    refine wpAny_assign_Name (stv F' N' fun h₇ tk₇ F₇ N₇ => ?_)
    dsimp only at F₇ N₇ ⊢
    rw [foldl_take _ _ _ _ hi', ec]
    refine wpAny_execs_cons (wpAny_If (isTrue_val (Call_Name1 (ldg F₇ G' e9 (callFn (hf9.keeps gB) (spliced_cons (ldv F₇ upd_self (spliced_nil (wpAny_evalAll_nil ⟨F₇.keep, ?_⟩))))))) rfl))
    refine inc9_call (x := c) (G'.keeps F₇.keep) R hcl fun h₈ tk₈ k₈ => wpAny_truthy_bool ?_
    have F₈ := F₇.grow k₈
    have N₈ := News.grow' N₇ k₈
    by_cases h9 : c9b c = true
    · rw [if_pos h9]
      refine wpAny_execs_cons (wpAny_Expr_any (MethodCall_ (ldv F₈ (by walk_at "lk") (lmeth (N₈.get (.tail _ (.head _))) PySem.F.slot_list_append PySem.F.type_list_append ?_))))
      refine Calls.callWith_builtin rfl (Calls.evalArgs_plain (spliced_cons (ldv F₈ (by walk_at "lk") (spliced_nil ?_))))
      refine append_to (N₈.get (.tail _ (.head _))) (line_ok (by simp; omega)) fun h₉ s₉ o₉ => ?_
      have hr := N₈ _ (.tail _ (.head _))
      have F₉ := F₈.change s₉ hr.2.1 hr.2.2
      have N₉ : News B' s.heap.objs.size h₉ [(I, o'), (r, listOf (List.map sv (ps ++ [(((book.take i).foldl stepW ([], [])).2, t)])).toArray (n + 1))] := by
        rw [List.map_append]
        exact News.turn (pre := [(I, o')]) N₈ s₉ o₉ (fun p hp => by simp only [List.mem_singleton] at hp; subst hp; exact (hnd' (r, listOf (List.map sv ps).toArray n) (.head _)).symm) (fun p hp => noMem hp)
      refine wpAny_execs_cons (wpAny_Assign_Name (wpAny_Constant_str (stv F₉ N₉ fun h₁₀ tk₁₀ F₁₀ N₁₀ => wpAny_execs_nil (wpAny_execs_nil ?_))))
      dsimp only at F₁₀ N₁₀ ⊢
      refine ⟨B', h₁₀, tk₁₀, _, _, rfl, fun _ _ e => e, F₁₀, N₁₀, ?_, _, _, tk₈, rfl, ?_, by walk_at "lk", ?_, by simp; omega, ?_⟩
      · intro p hp; simp only [List.mem_singleton] at hp; subst hp; exact hnd' (r, listOf (List.map sv ps).toArray n) (.head _)
      · rw [List.map_append, eps, stepW, if_pos h9]; rfl
      · rw [stepW, if_pos h9]; exact upd_self
      · rw [stepW, if_pos h9]; simp
    · rw [if_neg h9]
      refine wpAny_execs_cons (wpAny_If (isTrue_not' (isTrue_val (Call_Name1 (ldg F₈ G' e1 (callFn (hf1.keeps gB) (spliced_cons (ldv F₈ upd_self (spliced_nil (wpAny_evalAll_nil ⟨F₈.keep, ?_⟩))))))) rfl)))
      refine inb1_call (x := c) (G'.keeps F₈.keep) R hcl fun h₉ tk₉ k₉ => wpAny_truthy_bool ?_
      have F₉ := F₈.grow k₉
      have N₉ := News.grow' N₈ k₉
      by_cases h1 : b1b c = true
      · rw [h1, if_neg (by decide)]
        refine wpAny_execs_nil (wpAny_execs_nil (wpAny_execs_nil ?_))
        refine ⟨B', h₉, tk₉, _, _, rfl, fun _ _ e => e, F₉, N₉, hnd', ps, n, t, rfl, ?_, by walk_at "lk", ?_, by omega, ?_⟩
        · rw [stepW, if_neg h9, if_pos h1]; exact eps
        · rw [stepW, if_neg h9, if_pos h1]; exact (upd_ne (by decide)).trans mo
        · rw [stepW, if_neg h9, if_pos h1]; omega
      · rw [if_pos (by simpa using h1)]
        have h3 : (c, b3of c) ∈ b3L := by
          rcases hck with q | q | q
          · exact absurd q h9
          · exact absurd q h1
          · exact q
        refine wpAny_execs_cons (wpAny_AugAssign_Name (ldnv F₉ (by walk_at "lk") (Call_Name1 (ldg F₉ G' e3 (callFn (hf3.keeps gB) (spliced_cons (ldv F₉ upd_self (spliced_nil (wpAny_evalAll_nil ⟨F₉.keep, ?_⟩)))))))))
        refine map_call (x := c) (G'.keeps F₉.keep) R h3 fun h₁₀ tk₁₀ t₁₀ k₁₀ => ?_
        have F₁₀ := F₉.grow k₁₀
        have N₁₀ := News.grow' N₉ k₁₀
        have hfl : (foldTo c (b3of c)).length ≤ 3 := by
          have : ∀ p ∈ b3L, (foldTo p.1 p.2).length ≤ 3 := by decide
          exact this _ h3
        refine iadd_str (hsz := by rw [slen, slen]; exact line_ok (by omega)) fun t' tk' => (stv (by exact F₁₀) (by exact N₁₀) fun h₁₁ tk₁₁ F₁₁ N₁₁ => wpAny_execs_nil (wpAny_execs_nil (wpAny_execs_nil ?_)))
        dsimp only at F₁₁ N₁₁ ⊢
        refine ⟨B', h₁₁, tk₁₁, _, _, rfl, fun _ _ e => e, F₁₁, N₁₁, hnd', ps, n, t', rfl, ?_, by walk_at "lk", ?_, by omega, ?_⟩
        · rw [stepW, if_neg h9, if_neg h1]; exact eps
        · rw [stepW, if_neg h9, if_neg h1, ← S_app]; exact upd_self
        · rw [stepW, if_neg h9, if_neg h1]; simp; omega
  · rintro B' h' tk' m' led' gB F' N' ⟨ps, n, t, rfl, eps, mw, mo, hpl, hol⟩
    have etk : book.take (S book).cps.size = book := List.take_of_length_le (by simp)
    rw [etk] at eps mo
    refine wpAny_execs_cons (wpAny_Return_some (IfExp_ (wpAny_isTrue_Compare1 (ldv F' mo (wpAny_Constant_str (PyProof.Rows.eq_str (wpAny_truthy_bool ?_)))))))
    rw [eq_nil_eq]
    by_cases h0 : (book.foldl stepW ([], [])).2 = []
    · rw [if_pos (by simpa using h0)]
      exact ldv F' mw (h _ _ r ps n (Grown.trans gB F'.keep) hr0 (N'.get (.head _)) (by rw [eps, wordsL]; simp [h0]))
    · rw [if_neg (by simpa using h0)]
      refine list_disp (spliced_nil ⟨by simp, fun h₇ r₇ k₇ n₇ o₇ => ?_⟩)
      refine h _ _ r₇ [] 0 (Grown.trans gB (Grown.trans F'.keep k₇)) ?_ o₇ (by rw [wordsL]; simp [h0])
      cases e : s.heap.get? r₇ with
      | none => rfl
      | some o => rw [F'.keep _ _ (gB _ _ e)] at n₇; cases n₇
  · intro i s' v Q' E' o' ho hO' hP hi hq
    exact wpAny_of_eq rfl hq
end Mine

namespace Mine
local macro_rules | `(tactic| walk_at "lk") => `(tactic| first | with_reducible assumption | exact upd_self | (refine (upd_ne (by decide)).trans ?_; walk_at "lk") | exact rfl)

noncomputable abbrev cInt (c : Nat × Pos) : Expr := .Constant (.int (Int.ofNat c.1)) 0 c.2
noncomputable abbrev cStr (c : String × Pos) : Expr := .Constant (.str (Str.ofString c.1)) 0 c.2

section
variable {w : World} {A : Around} {E : Value → Shared → Prop} {env : Env} {pos : Pos}
theorem disp_ints : ∀ (cs : List (Nat × Pos)) (s : Shared) (Q : List Value → Shared → Prop),
    (∀ (rs : List IT) tk, rs.map (·.1) = (cs.map (·.1)).map Int.ofNat → Q (rs.map iv) { s with toks := tk }) → wpAny (model P0 w) A (spliced (backTo pos (starEach (cs.map cInt) env))) Q E s := by
  intro cs
  induction cs with
  | nil => intro s Q hq; exact spliced_nil (hq [] s.toks rfl)
  | cons c r ih =>
    intro s Q hq
    show wpAny (model P0 w) A (spliced ((false, eval (cInt c) env) :: backTo pos (starEach (r.map cInt) env))) Q E s
    refine spliced_cons (wpAny_Constant_int (pos := c.2) (k := 0) (ih _ _ fun rs tk e => ?_))
    exact hq ((Int.ofNat c.1, s.toks) :: rs) tk (by rw [List.map_cons, List.map_cons, List.map_cons, e])
theorem disp_strs : ∀ (cs : List (String × Pos)) (s : Shared) (Q : List Value → Shared → Prop),
    (∀ (vs : List Value) tk, vs.length = cs.length → (∀ i (h : i < cs.length) (h' : i < vs.length), ∃ t, vs[i] = .str (Str.ofString cs[i].1) t) → Q vs { s with toks := tk }) → wpAny (model P0 w) A (spliced (backTo pos (starEach (cs.map cStr) env))) Q E s := by
  intro cs
  induction cs with
  | nil => intro s Q hq; exact spliced_nil (hq [] s.toks rfl (fun i h => by simp at h))
  | cons c r ih =>
    intro s Q hq
    show wpAny (model P0 w) A (spliced ((false, eval (cStr c) env) :: backTo pos (starEach (r.map cStr) env))) Q E s
    refine spliced_cons (wpAny_Constant_str (pos := c.2) (k := 0) (ih _ _ fun vs tk e hi => ?_))
    refine hq (.str (Str.ofString c.1) s.toks :: vs) tk (by simp [e]) fun i h h' => ?_
    cases i with
    | zero => exact ⟨_, rfl⟩
    | succ i => exact hi i (by simpa using h) (by simpa using h')
end
end Mine

namespace Mine
local macro_rules | `(tactic| walk_at "lk") => `(tactic| first | with_reducible assumption | exact upd_self | (refine (upd_ne (by decide)).trans ?_; walk_at "lk") | exact rfl)

noncomputable def drawnL (zs : List Int) : List Nat := (zs.take 4).map (fun z => (z % 1000000).toNat) ++ [28, 3, 11, 7].drop (zs.take 4).length
noncomputable def alphaL : List Nat := [65, 119808, 119860, 119912, 120016, 120172, 120224, 120276, 120328, 120380, 120432]
noncomputable def rareL : List Nat := [173, 847, 6150, 6155, 6156, 6157, 8203, 8204, 8205, 8288, 65279]
noncomputable def pieceW : List (List Nat) := [[102], [105], [102, 102], [102, 105], [102, 102, 105], []]
noncomputable def alphaOf (x : Nat) : Nat := alphaL.getD (x / 30 % 11) 0
noncomputable def silentOf (x : Nat) : Nat := if x / 30 % 27 < 11 then rareL.getD (x / 30 % 27) 0 else 65013 + x / 30 % 27
noncomputable def signsOf (x p : Nat) : Nat := [alphaOf x + 5, alphaOf x + 8, 64256, 64257, 64259, silentOf x].getD p 0
noncomputable def closeOf (x : Nat) : Nat := if x / 30 % 97 = 0 then 917505 else 917535 + x / 30 % 97
noncomputable def bookOf (x : Nat) : List Nat := [signsOf x (x % 5), signsOf x (x / 5 % 6), closeOf x]
noncomputable def wordOf (x : Nat) : List Nat := pieceW.getD (x % 5) [] ++ pieceW.getD (x / 5 % 6) []

noncomputable abbrev FoldsTo (c : Nat) (y : List Nat) : Prop := c < 0x110000 ∧ c9b c = false ∧ b1b c = false ∧ foldTo c (b3of c) = y ∧ (c, b3of c) ∈ b3L
theorem alpha_ok : ∀ i, i < 11 → FoldsTo (alphaL.getD i 0 + 5) [102] ∧ FoldsTo (alphaL.getD i 0 + 8) [105] := by decide +kernel
theorem lig_ok : FoldsTo 64256 [102, 102] ∧ FoldsTo 64257 [102, 105] ∧ FoldsTo 64259 [102, 102, 105] := by decide +kernel
theorem silent_ok : ∀ r, r < 27 → (if r < 11 then rareL.getD r 0 else 65013 + r) < 0x110000 ∧ c9b (if r < 11 then rareL.getD r 0 else 65013 + r) = false ∧ b1b (if r < 11 then rareL.getD r 0 else 65013 + r) = true := by decide +kernel
theorem close_ok : ∀ r, r < 97 → (if r = 0 then 917505 else 917535 + r) < 0x110000 ∧ c9b (if r = 0 then 917505 else 917535 + r) = true := by decide +kernel

theorem below6 {p : Nat} (h : p < 6) : p = 0 ∨ p = 1 ∨ p = 2 ∨ p = 3 ∨ p = 4 ∨ p = 5 := by omega
theorem sign_step (x p : Nat) (hp : p < 6) (st : List (List Nat) × List Nat) : stepW st (signsOf x p) = (st.1, st.2 ++ pieceW.getD p []) ∧ SignOk (signsOf x p) := by
  have fin : ∀ c y, FoldsTo c y → stepW st c = (st.1, st.2 ++ y) ∧ SignOk c := fun c y h => by
    obtain ⟨h0, h1, h2, h3, h4⟩ := h
    refine ⟨?_, h0, .inr (.inr h4)⟩
    rw [stepW, if_neg (by rw [h1]; decide), if_neg (by rw [h2]; decide), h3]
  have ha := alpha_ok (x / 30 % 11) (Nat.mod_lt _ (by decide))
  rcases below6 hp with rfl | rfl | rfl | rfl | rfl | rfl
  · exact fin _ _ ha.1
  · exact fin _ _ ha.2
  · exact fin _ _ lig_ok.1
  · exact fin _ _ lig_ok.2.1
  · exact fin _ _ lig_ok.2.2
  · obtain ⟨h0, h1, h2⟩ := silent_ok (x / 30 % 27) (Nat.mod_lt _ (by decide))
    have e : signsOf x 5 = (if x / 30 % 27 < 11 then rareL.getD (x / 30 % 27) 0 else 65013 + x / 30 % 27) := rfl
    rw [e]
    refine ⟨?_, h0, .inr (.inl h2)⟩
    rw [stepW, if_neg (by rw [h1]; decide), if_pos h2]
    show st = (st.1, st.2 ++ [])
    rw [List.append_nil]
theorem close_step (x : Nat) (st : List (List Nat) × List Nat) : stepW st (closeOf x) = (st.1 ++ [st.2], []) ∧ SignOk (closeOf x) := by
  obtain ⟨h0, h1⟩ := close_ok (x / 30 % 97) (Nat.mod_lt _ (by decide))
  have h1' : c9b (closeOf x) = true := h1
  refine ⟨?_, h0, .inl h1⟩
  rw [stepW, if_pos h1']
theorem book_step (x : Nat) (ws : List (List Nat)) : (bookOf x).foldl stepW (ws, []) = (ws ++ [wordOf x], []) := by
  show stepW (stepW (stepW (ws, []) (signsOf x (x % 5))) (signsOf x (x / 5 % 6))) (closeOf x) = _
  rw [(sign_step x (x % 5) (by omega) _).1, (sign_step x (x / 5 % 6) (by omega) _).1, (close_step x _).1]
  simp [wordOf]
theorem words_book (xs : List Nat) : wordsL (xs.flatMap bookOf) = xs.map wordOf := by
  have key : ∀ (xs : List Nat) (ws : List (List Nat)), (xs.flatMap bookOf).foldl stepW (ws, []) = (ws ++ xs.map wordOf, []) := by
    intro xs
    induction xs with
    | nil => intro ws; simp
    | cons x r ih =>
      intro ws
      rw [List.flatMap_cons, List.foldl_append, book_step, ih]
      simp
  unfold wordsL
  rw [key]
  simp
theorem book_ok (xs : List Nat) : ∀ c ∈ xs.flatMap bookOf, SignOk c := fun c hc => by
  obtain ⟨x, _, hx⟩ := List.mem_flatMap.mp hc
  simp only [bookOf, List.mem_cons, List.not_mem_nil, or_false] at hx
  rcases hx with rfl | rfl | rfl
  · exact (sign_step x (x % 5) (by omega) ([], [])).2
  · exact (sign_step x (x / 5 % 6) (by omega) ([], [])).2
  · exact (close_step x ([], [])).2
theorem book_len (xs : List Nat) : (xs.flatMap bookOf).length = 3 * xs.length := by
  induction xs with
  | nil => rfl
  | cons x r ih => rw [List.flatMap_cons, List.length_append, ih]; simp [bookOf]; omega
end Mine

namespace Mine
local macro_rules | `(tactic| walk_at "lk") => `(tactic| first | with_reducible assumption | exact upd_self | (refine (upd_ne (by decide)).trans ?_; walk_at "lk") | exact rfl)

theorem slice_to (li : List Value) (k : Nat) : slicePick li.toArray none (some (k : Int)) none = (li.take k).toArray := by
  have := slicePick_plain li.toArray none (some (k : Int))
  rw [this]
  simp only [Option.elim, clipAt_nat, List.size_toArray]
  congr 1
  rw [List.drop_zero]
  rcases Nat.lt_or_ge k li.length with h | h
  · rw [Nat.min_eq_left (by omega)]; simp
  · rw [Nat.min_eq_right (by omega), List.take_of_length_le (by omega), List.take_of_length_le h]
theorem slice_from' (li : List Value) (k : Nat) : slicePick li.toArray (some (k : Int)) none none = (li.drop k).toArray := by
  have := slicePick_plain li.toArray (some (k : Int)) none
  rw [this]
  simp only [Option.elim, clipAt_nat, List.size_toArray]
  congr 1
  rcases Nat.lt_or_ge k li.length with h | h
  · rw [Nat.min_eq_left (by omega)]
    exact List.take_of_length_le (by simp)
  · rw [Nat.min_eq_right (by omega), List.drop_of_length_le (Nat.le_refl _), List.drop_of_length_le h]; simp

noncomputable abbrev envBk (L a : Addr) (cd : Value) : Env := envOf "_law_book" (sco 17) L a cd

theorem fmod_pos (z : Int) (n : Nat) : z.fmod ((n : Nat) : Int) = z % (n : Int) := Int.fmod_eq_emod_of_nonneg _ (Int.natCast_nonneg _)

section
variable {w : World} {A : Around} {s : Shared} {B : Heap} {L a l : Addr} {cd : Value} {m : Str → Option Value}

theorem asg_used {E : Value → Shared → Prop} {env : Env} {elt target iter : Expr} {ifs : List Expr} {rest : List Comprehension} {scope : Scope} {y : Str} {py cp spos : Pos} {Q : Flow → Shared → Prop}
    (hsw : swapsWith (.ListComp elt (⟨target, iter, ifs, 0⟩ :: rest) scope cp) (some (.Name y py)) spos.line env = pure true)
    (h : wpAny (model P0 w) A (comprehension (.ListComp elt (⟨target, iter, ifs, 0⟩ :: rest) scope cp) scope env (firstIterPos (⟨target, iter, ifs, 0⟩ :: rest) cp) (newList []) false (eval iter env) (some (assign (.Name y py) env))) (fun _ s' => Q .next s') E s)
    (he : evalThenUse (.ListComp elt (⟨target, iter, ifs, 0⟩ :: rest) scope cp) env (assign (.Name y py) env) = (do let _ ← comprehension (.ListComp elt (⟨target, iter, ifs, 0⟩ :: rest) scope cp) scope env (firstIterPos (⟨target, iter, ifs, 0⟩ :: rest) cp) (newList []) false (eval iter env) (some (assign (.Name y py) env)); pure ()) := by rfl) :
    wpAny (model P0 w) A (exec (.Assign [.Name y py] (.ListComp elt (⟨target, iter, ifs, 0⟩ :: rest) scope cp) spos) env) Q E s := by
  rw [exec_Assign_Name_used _ _ _ _ hsw, he]
  exact wpAny_bind (wpAny_standAt (wpAny_bind (wpAny_bind (wpAny_mono h (fun _ s' hq => wpAny_pure (wpAny_pure hq)) fun _ _ e => e))))

theorem drawn_stmt {rs : List IT} {Q : Flow → Shared → Prop} (R : Rm A 0) (F : Loc B L s.heap m) (hl : B.IsList l (rs.map iv).toArray) (hz : rs.length < 1000) (ml : m "script" = some (.ref l))
    (h : ∀ h' tk D us n, Loc B L h' (upd m "drawn" (.ref D)) → News B L h' [(D, listOf (List.map iv us).toArray n)] → us.map (·.1) = ((rs.map (·.1)).take 4).map (fun z => z % 1000000) → Q .next { s with heap := h', toks := tk }) :
    wpAny (model P0 w) A (exec (nthS (body 17) 0) (envBk L a cd)) Q NoE s := by
  refine asg_used (by rfl) ?_
  refine comp1 (cl := []) rfl ?_
  refine sub_list (ldv F ml (wpAny_pure (wpAny_Constant_int (pos := ⟨70, 42, 70, 43⟩) (k := 0) ?_)))
  refine ⟨l, rs.map iv, none, some ((4 : Nat) : Int), rfl, F.lst hl, by simp; omega, .none, .int _ _, fun h₂ r₂ k₂ n₂ o₂ => ?_⟩
  rw [slice_to, ← List.map_take] at o₂
  have F₂ := F.grow k₂
  refine iter_list (items := ((rs.take 4).map iv).toArray) ⟨_, o₂, rfl, _, rfl⟩ fun h₃ I o k₃ n₃ o₃ hO => ?_
  have F₃ := F₂.grow k₃
  have hr₃ : (h₃.hide I).IsList r₂ ((rs.take 4).map iv).toArray := ⟨_, by
    rw [Heap.hide_ne _ (fun q => by rw [q] at o₂; rw [o₂] at n₃; cases n₃)]; exact k₃ _ _ o₂, rfl, _, rfl⟩
  have gB : Grown B (h₃.hide I) := fun b o e => by
    have e2 := F₂.keep _ _ e
    rw [Heap.hide_ne _ (fun q => by rw [q] at e2; rw [e2] at n₃; cases n₃)]
    exact k₃ _ _ e2
  refine ⟨I, _, _, _, _, o, fun i _ acc => ∃ us : List IT, acc = us.map iv ∧ us.map (·.1) = (((rs.map (·.1)).take 4).map (fun z => z % 1000000)).take i ∧ acc.length ≤ i, rfl, Iter.list R.handled I r₂ _, fun h k => listK hr₃ (k), o₃, hO, ⟨[], rfl, by simp, by simp⟩, ?_, ?_, ?_⟩
  · rintro i _ acc ⟨us, rfl, hu, hle⟩
    have := congrArg List.length hu
    simp at this ⊢; omega
  · rintro i v C D B' h tk m' acc kk o' hi hv hg F' N' ⟨us, rfl, hu, hle⟩
    have hi' : i < rs.length ∧ i < 4 := by simpa [Nat.lt_min, and_comm] using hi
    have hv' : v = iv rs[i] := by simpa [hi'.1, hi'.2] using hv.symm
    subst hv'
    refine wpAny_assign_Name (stE F' N' fun h₄ tk₄ F₄ N₄ => wpAny_tests_nil ?_)
    rw [if_pos rfl]
    refine wpAny_BinOp (ldE F₄ upd_self (wpAny_Constant_int (mod_int (by decide) ?_)))
    refine ⟨B', h₄, _, _, rfl, fun _ _ e => e, F₄, N₄, us ++ [(rs[i].1 % 1000000, tk₄ + 1)], ?_, ?_, by simp; simpa using hle⟩
    · rw [List.map_append]
      have := fmod_pos rs[i].1 1000000
      simp only [List.map_cons, List.map_nil, iv]
      congr 3
    · have e : (((rs.map (·.1)).take 4).map (fun z => z % 1000000))[i]? = some (rs[i].1 % 1000000) := by
        rw [List.getElem?_map, List.getElem?_take, if_pos hi'.2]; simp [hi'.1]
      rw [List.map_append, hu, List.take_add_one (i := i), e]
      rfl
  · rintro B' C h₄ tk₄ m₄ D acc kk hg F₄ N₄ ⟨us, rfl, hu, _⟩
    have k₄ : Grown h₂ h₄ := fun b o e => by
      have hb : b ≠ I := fun q => by rw [q] at e; rw [e] at n₃; cases n₃
      exact F₄.keep _ _ (hg b o (by rw [Heap.hide_ne _ hb]; exact k₃ b o e))
    have F₅ := F₂.grow k₄
    have hD := N₄ _ (.head _)
    have hnew : ∀ a, (h₃.hide I).get? a = some o → True := fun _ _ => trivial
    have hDn : B'.get? D = none := hD.2.2
    have hDB : B.get? D = none := by
      cases e : B.get? D with
      | none => rfl
      | some o => rw [hg _ _ (gB _ _ e)] at hDn; cases hDn
    have hLI : L ≠ I := fun q => by
      obtain ⟨oL, _, _, hL, _⟩ := F₂.ns
      rw [q, n₃] at hL; cases hL
    have hLB : ∃ o, B'.get? L = some o := by
      obtain ⟨oL, _, _, hL, _⟩ := F₂.ns
      exact ⟨oL, hg _ _ (by rw [Heap.hide_ne _ hLI]; exact k₃ _ _ hL)⟩
    have hLC : L ≠ C := fun q => by obtain ⟨o, e⟩ := hLB; rw [q, F₄.free] at e; cases e
    have hLD : D ≠ L := fun q => by obtain ⟨o, e⟩ := hLB; rw [← q, hDn] at e; cases e
    have hCB : B.get? C = none := by
      cases e : B.get? C with
      | none => rfl
      | some o => have := hg _ _ (gB _ _ e); rw [F₄.free] at this; cases this
    have N₅ : News B L h₄ [(D, listOf (List.map iv us).toArray kk)] := by
      intro p hp
      simp only [List.mem_singleton] at hp; subst hp
      exact ⟨hD.1, hLD, hDB⟩
    show wpAny _ A (assign (.Name "drawn" ⟨70, 4, 70, 9⟩) (envBk L a cd) (.ref D)) _ _ _
    refine wpAny_assign_Name (wpAny_storeName_local (by rfl) F₅.ns (fun h₆ hn₆ hs₆ => ?_) (by rfl))
    have F₆ := F₅.set hn₆ hs₆
    have N₆ := N₅.set hs₆
    refine ⟨m₄, ?_, fun h₇ s₇ => ?_⟩
    · obtain ⟨oC, a1, a2, hC, a3⟩ := F₄.ns
      exact ⟨oC, a1, a2, (hs₆.2 C hLC.symm).trans hC, a3⟩
    · refine h _ _ D us kk (F₆.change s₇ hLC.symm hCB) ?_ ?_
      · intro p hp
        have := N₆ p hp
        refine ⟨(s₇.2 _ ?_).trans this.1, this.2⟩
        simp only [List.mem_singleton] at hp; subst hp
        exact hD.2.1
      · rw [hu, List.take_of_length_le]
        simp
end
end Mine

namespace Mine
local macro_rules | `(tactic| walk_at "lk") => `(tactic| first | with_reducible assumption | exact upd_self | (refine (upd_ne (by decide)).trans ?_; walk_at "lk") | exact rfl)

section
variable {w : World} {A : Around} {E : Value → Shared → Prop} {s : Shared} {env : Env}
theorem spl6 {pos : Pos} {e1 e2 e3 e4 e5 e6 : Expr} {Q : List Value → Shared → Prop} (h : wpAny (model P0 w) A (eval e1 env) (fun v1 s₁ => wpAny (model P0 w) A (eval e2 env) (fun v2 s₂ => wpAny (model P0 w) A (eval e3 env) (fun v3 s₃ => wpAny (model P0 w) A (eval e4 env) (fun v4 s₄ =>
      wpAny (model P0 w) A (eval e5 env) (fun v5 s₅ => wpAny (model P0 w) A (eval e6 env) (fun v6 s₆ => Q [v1, v2, v3, v4, v5, v6] s₆) E s₅) E s₄) E s₃) E s₂) E s₁) E s)
    (hs : backTo pos (starEach [e1, e2, e3, e4, e5, e6] env) = [(false, eval e1 env), (false, eval e2 env), (false, eval e3 env), (false, eval e4 env), (false, eval e5 env), (false, eval e6 env)] := by rfl) : wpAny (model P0 w) A (spliced (backTo pos (starEach [e1, e2, e3, e4, e5, e6] env))) Q E s := by
  rw [hs]
  exact spliced_cons (wpAny_mono h (fun _ _ q => spliced_cons (wpAny_mono q (fun _ _ q => spliced_cons (wpAny_mono q (fun _ _ q => spliced_cons (wpAny_mono q (fun _ _ q => spliced_cons (wpAny_mono q (fun _ _ q => spliced_cons (wpAny_mono q (fun _ _ q => spliced_nil q) fun _ _ e => e)) fun _ _ e => e)) fun _ _ e => e)) fun _ _ e => e)) fun _ _ e => e)) fun _ _ e => e)

theorem asg_sub {x : Str} {pos' p pos : Pos} {v sl : Expr} {Q : Flow → Shared → Prop} (h : wpAny (model P0 w) A (eval (.Subscript v sl p) env) (fun v s₁ => wpAny (model P0 w) A (storeName env x v) (fun _ => Q .next) E s₁) E s) :
    wpAny (model P0 w) A (exec (.Assign [.Name x pos'] (.Subscript v sl p) pos) env) Q E s := wpAny_Assign_Name h
theorem asg_if {x : Str} {pos' p pos : Pos} {t b o : Expr} {Q : Flow → Shared → Prop} (h : wpAny (model P0 w) A (eval (.IfExp t b o p) env) (fun v s₁ => wpAny (model P0 w) A (storeName env x v) (fun _ => Q .next) E s₁) E s) :
    wpAny (model P0 w) A (exec (.Assign [.Name x pos'] (.IfExp t b o p) pos) env) Q E s := wpAny_Assign_Name h
noncomputable abbrev cInI (c : Int × Pos) : Expr := .Constant (.int c.1) 0 c.2
theorem disp_intsI {pos : Pos} : ∀ (cs : List (Int × Pos)) (s : Shared) (Q : List Value → Shared → Prop),
    (∀ (rs : List IT) tk, rs.map (·.1) = cs.map (·.1) → Q (rs.map iv) { s with toks := tk }) → wpAny (model P0 w) A (spliced (backTo pos (starEach (cs.map cInI) env))) Q E s := by
  intro cs
  induction cs with
  | nil => intro s Q hq; exact spliced_nil (hq [] s.toks rfl)
  | cons c r ih =>
    intro s Q hq
    show wpAny (model P0 w) A (spliced ((false, eval (cInI c) env) :: backTo pos (starEach (r.map cInI) env))) Q E s
    refine spliced_cons (wpAny_Constant_int (pos := c.2) (k := 0) (ih _ _ fun rs tk e => ?_))
    exact hq ((c.1, s.toks) :: rs) tk (by rw [List.map_cons, List.map_cons, e])
theorem cints_list (cs : List (Int × Pos)) {elts : List Expr} {p : Pos} {Q : Value → Shared → Prop} (he : elts = cs.map cInI) (hcs : cs.length < 1000)
    (h : ∀ h' r tk (rs : List IT), Grown s.heap h' → s.heap.get? r = none → h'.get? r = some (listOf (List.map iv rs).toArray 0) → rs.map (·.1) = cs.map (·.1) → Q (.ref r) { s with heap := h', toks := tk }) :
    wpAny (model P0 w) A (eval (.List elts p) env) Q E s :=
  he ▸ list_disp (disp_intsI cs _ _ fun rs tk e => ⟨by have := congrArg List.length e; simp at this ⊢; omega, fun h' r k n o => h h' r tk rs k n o e⟩)
end
theorem cint_at {rs : List IT} {ns : List Nat} (e : rs.map (·.1) = ns.map Int.ofNat) (k : Nat) (hk : k < ns.length) : ∃ t, (List.map iv rs).toArray[k]? = some (.int ((ns.getD k 0 : Nat) : Int) t) := by
  have hl : rs.length = ns.length := by have := congrArg List.length e; simpa using this
  have hk' : k < rs.length := by omega
  refine ⟨rs[k].2, ?_⟩
  have : (rs.map (·.1))[k]? = (ns.map Int.ofNat)[k]? := by rw [e]
  simp [hk, hk'] at this
  simp [hk, hk', List.getD_eq_getElem?_getD, iv, this]

theorem piece_strs (q1 q2 q3 q4 q5 q6 : Tok) (p : Nat) (hp : p < 6) : ∃ t, ([.str "f" q1, .str "i" q2, .str "ff" q3, .str "fi" q4, .str "ffi" q5, .str "" q6] : List Value)[p]? = some (.str (S (pieceW.getD p [])) t) := by
  have e1 : ("f" : Str) = S [102] := by decide +kernel
  have e2 : ("i" : Str) = S [105] := by decide +kernel
  have e3 : ("ff" : Str) = S [102, 102] := by decide +kernel
  have e4 : ("fi" : Str) = S [102, 105] := by decide +kernel
  have e5 : ("ffi" : Str) = S [102, 102, 105] := by decide +kernel
  have e6 : ("" : Str) = S [] := by decide +kernel
  rw [e1, e2, e3, e4, e5, e6]
  match p, hp with
  | 0, _ => exact ⟨_, rfl⟩
  | 1, _ => exact ⟨_, rfl⟩
  | 2, _ => exact ⟨_, rfl⟩
  | 3, _ => exact ⟨_, rfl⟩
  | 4, _ => exact ⟨_, rfl⟩
  | 5, _ => exact ⟨_, rfl⟩

theorem word_item {w : World} {A : Around} {E : Value → Shared → Prop} {s : Shared} {r : Addr} {q1 q2 q3 q4 q5 q6 u : Tok} {p : Nat} {pn : Str} {p1 p2 : Pos} {Q : Value → Shared → Prop} (hl : s.heap.IsList r ([.str "f" q1, .str "i" q2, .str "ff" q3, .str "fi" q4, .str "ffi" q5, .str "" q6] : List Value).toArray) (hp : p < 6)
    (h : ∀ t, Q (.str (S (pieceW.getD p [])) t) s) : wpAny (model P0 w) A (subscriptTail (.Name "x" p1) (.Name pn p2) (.ref r) (.int ((p : Nat) : Int) u)) Q E s := by
  obtain ⟨t, ht⟩ := piece_strs q1 q2 q3 q4 q5 q6 p hp
  exact item_listL hl (by omega) (by omega) (by rw [Int.toNat_natCast]; exact ht) (h t)

noncomputable def pieceBody : List Stmt := forBody (nthS (forBody (nthS (body 17) 3)) 4)

section
variable {w : World} {A : Around} {s : Shared} {B : Heap} {L a sg : Addr} {cd : Value} {m : Str → Option Value}

set_option maxHeartbeats 2000000 in
theorem piece_turn {x p n : Nat} {y : List Nat} {us : List IT} {ta ts tp ty : Tok} {pre post : List (Addr × Obj)} {Q : Flow → Shared → Prop} (R : Rm A 0) (F : Loc B L s.heap m)
    (N : News B L s.heap (pre ++ (sg, listOf (List.map iv us).toArray n) :: post)) (h1 : ∀ p ∈ pre, p.1 ≠ sg) (h2 : ∀ p ∈ post, p.1 ≠ sg)
    (ms : m "signs" = some (.ref sg)) (ma : m "alphabet" = some (.int ((alphaOf x : Nat) : Int) ta)) (mz : m "silent" = some (.int ((silentOf x : Nat) : Int) ts)) (mp : m "piece" = some (.int ((p : Nat) : Int) tp)) (mw : m "word" = some (.str (S y) ty))
    (hp : p < 6) (hy : y.length < 1000) (hu : us.length < 1000)
    (h : ∀ h' tk t t', Loc B L h' (upd m "word" (.str (S (y ++ pieceW.getD p [])) t')) → News B L h' (pre ++ (sg, listOf (List.map iv (us ++ [(((signsOf x p : Nat) : Int), t)])).toArray (n + 1)) :: post) → Q .next { s with heap := h', toks := tk }) :
    wpAny (model P0 w) A (execs pieceBody (envBk L a cd)) Q NoE s := by
  have hin : (sg, listOf (List.map iv us).toArray n) ∈ pre ++ (sg, listOf (List.map iv us).toArray n) :: post := List.mem_append_right _ (.head _)
  refine wpAny_execs_cons (wpAny_Expr_any (MethodCall_ (ldv F ms (lmeth (N.get hin) PySem.F.slot_list_append PySem.F.type_list_append ?_))))
  refine Calls.callWith_builtin rfl (Calls.evalArgs_plain (spliced_cons (sub_any (list_disp (spl6 ?_)))))
  refine wpAny_BinOp (ldv F ma (wpAny_Constant_int (wpAny_add_int (wpAny_BinOp (ldv F ma (wpAny_Constant_int (wpAny_add_int ?_)))))))
  refine wpAny_Constant_int (wpAny_Constant_int (wpAny_Constant_int (ldv F mz ⟨by simp, fun h₂ r₂ k₂ n₂ o₂ => ldv (F.grow k₂) mp ?_⟩)))
  have F₂ := F.grow k₂
  have N₂ := News.grow' N k₂
  obtain ⟨t, ht⟩ : ∃ t, ([.int ((alphaOf x : Nat) + 5 : Int) (s.toks + 1), .int ((alphaOf x : Nat) + 8 : Int) (s.toks + 1 + 1 + 1), .int 64256 (s.toks + 1 + 1 + 1 + 1), .int 64257 (s.toks + 1 + 1 + 1 + 1 + 1), .int 64259 (s.toks + 1 + 1 + 1 + 1 + 1 + 1), .int ((silentOf x : Nat) : Int) ts] : List Value)[p]? = some (.int ((signsOf x p : Nat) : Int) t) := by
    rcases below6 hp with rfl | rfl | rfl | rfl | rfl | rfl <;> exact ⟨_, rfl⟩
  refine item_listL (x := .int ((signsOf x p : Nat) : Int) t) ⟨_, o₂, rfl, _, rfl⟩ (by omega) (by omega) (by rw [Int.toNat_natCast]; exact ht) (spliced_nil ?_)
  have hD := N₂ _ hin
  refine append_to hD.1 (line_ok (by simp; omega)) fun h₃ s₃ o₃ => ?_
  have F₃ := F₂.change s₃ hD.2.1 hD.2.2
  have N₃ : News B L h₃ (pre ++ (sg, listOf (List.map iv (us ++ [(((signsOf x p : Nat) : Int), t)])).toArray (n + 1)) :: post) := by
    rw [List.map_append]
    exact News.turn N₂ s₃ o₃ h1 h2
  refine wpAny_execs_cons (wpAny_AugAssign_Name (ldnv F₃ mw (sub_any (list_disp (spl6 ?_)))))
  refine wpAny_Constant_str (wpAny_Constant_str (wpAny_Constant_str (wpAny_Constant_str (wpAny_Constant_str (wpAny_Constant_str ⟨by simp, fun h₄ r₄ k₄ n₄ o₄ => ldv (F₃.grow k₄) mp ?_⟩)))))
  have F₄ := F₃.grow k₄
  have N₄ := News.grow' N₃ k₄
  dsimp only at o₄
  refine word_item ⟨_, o₄, rfl, _, rfl⟩ hp fun t' => ?_
  have hpl : (pieceW.getD p []).length ≤ 3 := by
    have : ∀ p, p < 6 → (pieceW.getD p []).length ≤ 3 := by decide
    exact this p hp
  refine iadd_str (hsz := by rw [slen, slen]; exact line_ok (by omega)) fun t'' tk' => (stv (by exact F₄) (by exact N₄) fun h₅ tk₅ F₅ N₅ => wpAny_execs_nil ?_)
  rw [S_app] at F₅
  exact h _ _ _ _ F₅ N₅
end
end Mine

namespace Mine
local macro_rules | `(tactic| walk_at "lk") => `(tactic| first | with_reducible assumption | exact upd_self | (refine (upd_ne (by decide)).trans ?_; walk_at "lk") | exact rfl)

noncomputable def alphaCs : List (Int × Pos) := [(65, ⟨75, 20, 75, 22⟩), (119808, ⟨75, 24, 75, 30⟩), (119860, ⟨75, 32, 75, 38⟩), (119912, ⟨75, 40, 75, 46⟩), (120016, ⟨75, 48, 75, 54⟩), (120172, ⟨75, 56, 75, 62⟩), (120224, ⟨75, 64, 75, 70⟩), (120276, ⟨75, 72, 75, 78⟩), (120328, ⟨75, 80, 75, 86⟩), (120380, ⟨75, 88, 75, 94⟩), (120432, ⟨75, 96, 75, 102⟩)]
noncomputable def rareCs : List (Int × Pos) := [(173, ⟨77, 18, 77, 21⟩), (847, ⟨77, 23, 77, 26⟩), (6150, ⟨77, 28, 77, 32⟩), (6155, ⟨77, 34, 77, 38⟩), (6156, ⟨77, 40, 77, 44⟩), (6157, ⟨77, 46, 77, 50⟩), (8203, ⟨77, 52, 77, 56⟩), (8204, ⟨77, 58, 77, 62⟩), (8205, ⟨77, 64, 77, 68⟩), (8288, ⟨77, 70, 77, 74⟩), (65279, ⟨77, 76, 77, 81⟩)]
noncomputable def tailCs : List (Int × Pos) := [(28, ⟨71, 21, 71, 23⟩), (3, ⟨71, 25, 71, 26⟩), (11, ⟨71, 28, 71, 30⟩), (7, ⟨71, 32, 71, 33⟩)]

theorem fdiv_nat (x n : Nat) : ((x : Nat) : Int).fdiv ((n : Nat) : Int) = ((x / n : Nat) : Int) := by
  rw [Int.fdiv_eq_ediv_of_nonneg _ (Int.natCast_nonneg _)]; rfl
theorem fmod_nat (x n : Nat) : ((x : Nat) : Int).fmod ((n : Nat) : Int) = ((x % n : Nat) : Int) := by
  rw [Int.fmod_eq_emod_of_nonneg _ (Int.natCast_nonneg _)]; rfl

noncomputable def bkTurn : List Stmt := forBody (nthS (body 17) 3)

section
variable {w : World} {A : Around} {E : Value → Shared → Prop} {s : Shared} {B : Heap} {L a sg td I : Addr} {cd : Value} {m : Str → Option Value}


set_option maxHeartbeats 2000000 in
theorem turn_head {x : Nat} {tx : Tok} {led : List (Addr × Obj)} {Q : Flow → Shared → Prop} (R : Rm A 0) (F : Loc B L s.heap m) (N : News B L s.heap led) (mx : m "x" = some (.int ((x : Nat) : Int) tx))
    (h : ∀ h' tk t1 t2 t3 t4 t5, Loc B L h' (upd (upd (upd (upd (upd m "word" (.str (S []) t1)) "which" (.int ((x / 30 : Nat) : Int) t2)) "alphabet" (.int ((alphaOf x : Nat) : Int) t3)) "rare" (.int ((x / 30 % 27 : Nat) : Int) t4)) "silent" (.int ((silentOf x : Nat) : Int) t5)) → News B L h' led →
      wpAny (model P0 w) A (execs (bkTurn.drop 4) (envBk L a cd)) Q NoE { s with heap := h', toks := tk }) :
    wpAny (model P0 w) A (execs bkTurn (envBk L a cd)) Q NoE s := by
  refine wpAny_execs_cons (asg2 R.handled (spl2 (wpAny_BinOp (ldv F mx (wpAny_Constant_int (floordiv_int (by decide) ?_ (.inl (PyProof.noPylong_of_log2 (by decide +kernel)))))))))
  rw [show ((x : Nat) : Int).fdiv 30 = ((x / 30 : Nat) : Int) from fdiv_nat x 30]
  refine wpAny_Constant_str ⟨_, _, rfl, fun h₂ k₂ => ?_⟩
  have F₂ := F.grow k₂
  have N₂ := News.grow' N k₂
  refine stv F₂ N₂ fun h₃ _ F₃ N₃ => stv F₃ N₃ fun h₄ tk₄ F₄ N₄ => ?_
  dsimp only at F₄ N₄ ⊢
  refine wpAny_execs_cons ?_
  refine asg_sub ?_
  refine sub_any ?_
  refine @cints_list _ _ _ _ _ alphaCs _ _ _ ?_ (by decide) fun h₅ r₅ tk₅ rs₅ k₅ n₅ o₅ e₅ => ?_
  · rfl
  have F₅ := F₄.grow k₅
  have N₅ := News.grow' N₄ k₅
  refine wpAny_BinOp (ldv F₅ (by walk_at "lk") (wpAny_Constant_int (mod_int (by decide) ?_)))
  rw [show ((x / 30 : Nat) : Int).fmod 11 = ((x / 30 % 11 : Nat) : Int) from fmod_nat _ 11]
  obtain ⟨t3, ht3⟩ := cint_at (ns := alphaL) (e₅.trans (by decide)) (x / 30 % 11) (Nat.mod_lt _ (by decide))
  have hm := Nat.mod_lt (x / 30) (show 11 > 0 by decide)
  refine item_list (x := .int ((alphaOf x : Nat) : Int) t3) ⟨_, o₅, rfl, _, rfl⟩ (by omega) (by omega) (by rw [Int.toNat_natCast]; exact ht3) ?_
  refine stv (by exact F₅) (by exact N₅) fun h₆ tk₆ F₆ N₆ => ?_
  dsimp only at F₆ N₆ ⊢
  refine wpAny_execs_cons (wpAny_Assign_Name (wpAny_BinOp (ldv F₆ (by walk_at "lk") (wpAny_Constant_int (mod_int (by decide) ?_)))))
  rw [show ((x / 30 : Nat) : Int).fmod 27 = ((x / 30 % 27 : Nat) : Int) from fmod_nat _ 27]
  refine stv (by exact F₆) (by exact N₆) fun h₇ tk₇ F₇ N₇ => ?_
  dsimp only at F₇ N₇ ⊢
  refine wpAny_execs_cons ?_
  refine asg_if ?_
  refine IfExp_ ?_
  refine wpAny_isTrue_Compare1 (ldv F₇ upd_self (wpAny_Constant_int (wpAny_lt_int (wpAny_truthy_bool ?_))))
  by_cases hr : x / 30 % 27 < 11
  · rw [if_pos (by simp; omega)]
    refine sub_any ?_
    refine @cints_list _ _ _ _ _ rareCs _ _ _ ?_ (by decide) fun h₈ r₈ tk₈ rs₈ k₈ n₈ o₈ e₈ => ?_
    · rfl
    have F₈ := F₇.grow k₈
    have N₈ := News.grow' N₇ k₈
    obtain ⟨t8, ht8⟩ := cint_at (ns := rareL) (e₈.trans (by decide)) (x / 30 % 27) (by exact hr)
    have hs : silentOf x = rareL.getD (x / 30 % 27) 0 := if_pos hr
    refine ldv F₈ upd_self (item_list (x := .int ((silentOf x : Nat) : Int) t8) ⟨_, o₈, rfl, _, rfl⟩ (by omega) (by omega) (by rw [Int.toNat_natCast, hs]; exact ht8) ?_)
    exact stv (by exact F₈) (by exact N₈) fun h₉ tk₉ F₉ N₉ => h h₉ tk₉ _ _ _ _ _ F₉ N₉
  · rw [if_neg (by simp; omega)]
    refine wpAny_BinOp (wpAny_Constant_int (ldv (by exact F₇) upd_self (wpAny_add_int ?_)))
    have hs : silentOf x = 65013 + x / 30 % 27 := if_neg hr
    have e : (65013 : Int) + ((x / 30 % 27 : Nat) : Int) = ((silentOf x : Nat) : Int) := by rw [hs]; rfl
    rw [e]
    exact stv (by exact F₇) (by exact N₇) fun h₉ tk₉ F₉ N₉ => h h₉ tk₉ _ _ _ _ _ F₉ N₉
end
end Mine

namespace Mine
local macro_rules | `(tactic| walk_at "lk") => `(tactic| first | with_reducible assumption | exact upd_self | (refine (upd_ne (by decide)).trans ?_; walk_at "lk") | exact rfl)

section
variable {w : World} {A : Around} {s : Shared} {B : Heap} {L a sg td I : Addr} {cd : Value} {m : Str → Option Value}

theorem turn_tail {x n k : Nat} {y : List Nat} {us : List IT} {ps : List WT} {oI : Obj} {tw ty : Tok} {Q : Flow → Shared → Prop} (R : Rm A 0) (F : Loc B L s.heap m)
    (N : News B L s.heap [(I, oI), (sg, listOf (List.map iv us).toArray n), (td, listOf (List.map sv ps).toArray k)]) (h1 : sg ≠ I) (h2 : td ≠ I) (h3 : td ≠ sg)
    (ms : m "signs" = some (.ref sg)) (mt : m "told" = some (.ref td)) (mh : m "which" = some (.int ((x / 30 : Nat) : Int) tw)) (mw : m "word" = some (.str (S y) ty)) (hu : us.length < 1000) (hp : ps.length < 1000)
    (h : ∀ h' tk t, Loc B L h' m → News B L h' [(I, oI), (sg, listOf (List.map iv (us ++ [(((closeOf x : Nat) : Int), t)])).toArray (n + 1)), (td, listOf (List.map sv (ps ++ [(y, ty)])).toArray (k + 1))] → Q .next { s with heap := h', toks := tk }) :
    wpAny (model P0 w) A (execs (bkTurn.drop 5) (envBk L a cd)) Q NoE s := by
  have fin : ∀ (s₂ : Shared) t, s₂.heap = s.heap → s₂.gens = s.gens → s₂.drawn = s.drawn → s₂.os = s.os → wpAny (model P0 w) A (call (.builtin "list.append") [.ref sg, .int ((closeOf x : Nat) : Int) t]) (fun _ s₃ => wpAny (model P0 w) A (execs (bkTurn.drop 6) (envBk L a cd)) Q NoE s₃) NoE s₂ := by
    rintro ⟨h₂, g₂, d₂, tk₂, os₂⟩ t rfl rfl rfl rfl
    have hD := N _ (.tail _ (.head _))
    refine append_to hD.1 (line_ok (by simp; omega)) fun h₃ s₃ o₃ => ?_
    have F₃ := F.change s₃ hD.2.1 hD.2.2
    have N₃ : News B L h₃ [(I, oI), (sg, listOf (List.map iv (us ++ [(((closeOf x : Nat) : Int), t)])).toArray (n + 1)), (td, listOf (List.map sv ps).toArray k)] := by
      rw [List.map_append]
      exact News.turn (pre := [(I, oI)]) N s₃ o₃ (fun p hp => by simp only [List.mem_singleton] at hp; subst hp; exact h1.symm) (fun p hp => by simp only [List.mem_singleton] at hp; subst hp; exact h3)
    refine wpAny_execs_cons ?_
    refine wpAny_Expr_any (MethodCall_ (ldv F₃ mt (lmeth (N₃.get (.tail _ (.tail _ (.head _)))) PySem.F.slot_list_append PySem.F.type_list_append ?_)))
    refine Calls.callWith_builtin rfl (Calls.evalArgs_plain (spliced_cons (ldv F₃ mw (spliced_nil ?_))))
    have hT := N₃ _ (.tail _ (.tail _ (.head _)))
    refine append_to hT.1 (line_ok (by simp; omega)) fun h₄ s₄ o₄ => wpAny_execs_nil ?_
    refine h h₄ _ t (F₃.change s₄ hT.2.1 hT.2.2) ?_
    rw [List.map_append (l₁ := ps)]
    exact News.turn (pre := [(I, oI), (sg, _)]) N₃ s₄ o₄ (fun p hp => by
      simp only [List.mem_cons, List.not_mem_nil, or_false] at hp
      rcases hp with rfl | rfl
      · exact h2.symm
      · exact h3.symm) (fun p hp => noMem hp)
  refine wpAny_execs_cons ?_
  refine wpAny_Expr_any (MethodCall_ (ldv F ms (lmeth (N.get (.tail _ (.head _))) PySem.F.slot_list_append PySem.F.type_list_append ?_)))
  refine Calls.callWith_builtin rfl (Calls.evalArgs_plain (spliced_cons ?_))
  refine IfExp_ (pos := ⟨81, 21, 81, 71⟩) ?_
  refine wpAny_isTrue_Compare1 (wpAny_BinOp (ldv F mh (wpAny_Constant_int (mod_int (by decide) ?_))))
  rw [show ((x / 30 : Nat) : Int).fmod 97 = ((x / 30 % 97 : Nat) : Int) from fmod_nat _ 97]
  refine wpAny_Constant_int (eq_int (wpAny_truthy_bool ?_))
  by_cases h0 : x / 30 % 97 = 0
  · rw [if_pos (by rw [h0]; rfl)]
    refine wpAny_Constant_int (pos := ⟨81, 21, 81, 27⟩) (k := 0) (spliced_nil ?_)
    have e : closeOf x = 917505 := if_pos h0
    have := fin { s with toks := s.toks + 1 + 1 + 1 + 1 } (s.toks + 1 + 1 + 1) rfl rfl rfl rfl
    rw [e] at this
    exact this
  · rw [if_neg (by simp; omega)]
    refine wpAny_BinOp (wpAny_Constant_int (wpAny_BinOp (ldv (by exact F) mh (wpAny_Constant_int (mod_int (by decide) ?_)))))
    rw [show ((x / 30 : Nat) : Int).fmod 97 = ((x / 30 % 97 : Nat) : Int) from fmod_nat _ 97]
    refine wpAny_add_int (spliced_nil ?_)
    have e : closeOf x = 917535 + x / 30 % 97 := if_neg h0
    have e' : (917535 : Int) + ((x / 30 % 97 : Nat) : Int) = ((closeOf x : Nat) : Int) := by rw [e]; rfl
    rw [e']
    exact fin _ _ rfl rfl rfl rfl

inductive BkI (B₅ : Heap) (I sg td : Addr) (oI : Obj) (us : List IT) (ps : List WT) (k x : Nat) (t2 t3 t5 : Tok) (j : Nat) (B' : Heap) (m' : Str → Option Value) (led' : List (Addr × Obj)) : Prop
  | mk : B' = B₅ → ∀ us' n' t, led' = [(I, oI), (sg, listOf (List.map iv us').toArray n'), (td, listOf (List.map sv ps).toArray k)] → us'.map (·.1) = us.map (·.1) ++ (([signsOf x (x % 5), signsOf x (x / 5 % 6)].take j).map Int.ofNat) →
      m' "word" = some (.str (S ([pieceW.getD (x % 5) [], pieceW.getD (x / 5 % 6) []].take j).flatten) t) → m' "signs" = some (.ref sg) → m' "told" = some (.ref td) → m' "which" = some (.int ((x / 30 : Nat) : Int) t2) → m' "alphabet" = some (.int ((alphaOf x : Nat) : Int) t3) → m' "silent" = some (.int ((silentOf x : Nat) : Int) t5) → BkI B₅ I sg td oI us ps k x t2 t3 t5 j B' m' led'

set_option maxHeartbeats 4000000 in
theorem book_turn {x n k : Nat} {us : List IT} {ps : List WT} {oI : Obj} {tx : Tok} {Q : Flow → Shared → Prop} (R : Rm A 0) (F : Loc B L s.heap m)
    (N : News B L s.heap [(I, oI), (sg, listOf (List.map iv us).toArray n), (td, listOf (List.map sv ps).toArray k)]) (h1 : sg ≠ I) (h2 : td ≠ I) (h3 : td ≠ sg)
    (mx : m "x" = some (.int ((x : Nat) : Int) tx)) (ms : m "signs" = some (.ref sg)) (mt : m "told" = some (.ref td)) (hu : us.length < 900) (hp : ps.length < 900)
    (h : ∀ B' h' tk m' us' ps' n' k', Grown B B' → Loc B' L h' m' → News B' L h' [(I, oI), (sg, listOf (List.map iv us').toArray n'), (td, listOf (List.map sv ps').toArray k')] →
      us'.map (·.1) = us.map (·.1) ++ (bookOf x).map Int.ofNat → ps'.map (·.1) = ps.map (·.1) ++ [wordOf x] → m' "signs" = some (.ref sg) → m' "told" = some (.ref td) → Q .next { s with heap := h', toks := tk }) :
    wpAny (model P0 w) A (execs bkTurn (envBk L a cd)) Q NoE s := by
  refine turn_head R F N mx fun h₂ tk₂ t1 t2 t3 t4 t5 F₂ N₂ => ?_
  refine wpAny_execs_cons ?_
  refine wpAny_For (list_disp (spl2 ?_))
  refine wpAny_BinOp (ldv F₂ (by walk_at "lk") (wpAny_Constant_int (mod_int (by decide) ?_)))
  rw [show ((x : Nat) : Int).fmod 5 = ((x % 5 : Nat) : Int) from fmod_nat _ 5]
  refine wpAny_BinOp (wpAny_BinOp (ldv (by exact F₂) (by walk_at "lk") (wpAny_Constant_int (floordiv_int (by decide) ?_ (.inl (PyProof.noPylong_of_log2 (by decide +kernel)))))))
  rw [show ((x : Nat) : Int).fdiv 5 = ((x / 5 : Nat) : Int) from fdiv_nat _ 5]
  refine wpAny_Constant_int (mod_int (by decide) ?_)
  rw [show ((x / 5 : Nat) : Int).fmod 6 = ((x / 5 % 6 : Nat) : Int) from fmod_nat _ 6]
  refine ⟨by simp, fun h₃ r₃ k₃ n₃ o₃ => ?_⟩
  have F₃ := F₂.grow k₃
  have N₃ := News.grow' N₂ k₃
  obtain ⟨tp, tq, ho⟩ : ∃ tp tq, h₃.get? r₃ = some (listOf ([.int ((x % 5 : Nat) : Int) tp, .int ((x / 5 % 6 : Nat) : Int) tq] : List Value).toArray 0) := ⟨_, _, o₃⟩
  refine iter_list (l := r₃) ⟨_, ho, rfl, _, rfl⟩ fun h₄ J o k₄ n₄ o₄ hO => ?_
  have F₄ := F₃.grow k₄
  have N₄ := News.join F₃ N₃ k₄ n₄ o₄
  have out := (fresh_out F₃ N₃ n₄).2
  have hJ1 : I ≠ J := out _ (.head _)
  have hJ2 : sg ≠ J := out _ (.tail _ (.head _))
  have hJ3 : td ≠ J := out _ (.tail _ (.tail _ (.head _)))
  have outr := fresh_out F₂ N₂ n₃
  have N₄' : News B L h₄ [(J, o), (I, oI), (sg, listOf (List.map iv us).toArray n), (td, listOf (List.map sv ps).toArray k)] := N₄
  obtain ⟨B₅, g₅, F₅, N₅, hin₅⟩ := rebase F₄ N₄'
  have hJr : J ≠ r₃ := fun q => by rw [q, ho] at n₄; cases n₄
  have hr₅ : B₅.get? r₃ = some (listOf ([.int ((x % 5 : Nat) : Int) tp, .int ((x / 5 % 6 : Nat) : Int) tq] : List Value).toArray 0) := hin₅ _ _ (k₄ _ _ ho) outr.1 (by
    intro p hp
    rcases List.mem_cons.mp hp with rfl | hp
    · exact hJr
    · exact outr.2 p hp)
  refine for_it (Iter.list R.handled J r₃ _) (fun h k => ⟨_, k _ _ hr₅, rfl, _, rfl⟩)
    (fun j B' m' led' => BkI B₅ I sg td oI us ps k x t2 t3 t5 j B' m' led')
    F₅ N₅ (fun p hp => by
      simp only [List.mem_cons, List.not_mem_nil, or_false] at hp
      rcases hp with rfl | rfl | rfl
      · exact hJ1
      · exact hJ2
      · exact hJ3) hO ⟨rfl, us, n, t1, rfl, by simp, by walk_at "lk", by walk_at "lk", by walk_at "lk", by walk_at "lk", by walk_at "lk", by walk_at "lk"⟩ ?_ ?_ ?_
  · rintro j v B' h₆ tk₆ m₆ led₆ o₆ hj hv g₆ F₆ N₆ hnd₆ ⟨rfl, us', n', t, rfl, hus, mw, ms', mt', mh', ma', mz'⟩
    have hul : us'.length ≤ us.length + 2 := by
      have := congrArg List.length hus
      simp only [List.length_map, List.length_append, List.length_take, List.length_cons, List.length_nil] at this
      omega
    have hj2 : j < 2 := by simpa using hj
    obtain ⟨p, tp', hp6, rfl, ew, es⟩ : ∃ p tp', p < 6 ∧ v = .int ((p : Nat) : Int) tp' ∧ ([pieceW.getD (x % 5) [], pieceW.getD (x / 5 % 6) []].take (j + 1)).flatten = ([pieceW.getD (x % 5) [], pieceW.getD (x / 5 % 6) []].take j).flatten ++ pieceW.getD p [] ∧
        [signsOf x (x % 5), signsOf x (x / 5 % 6)].take (j + 1) = [signsOf x (x % 5), signsOf x (x / 5 % 6)].take j ++ [signsOf x p] := by
      match j, hj2 with
      | 0, _ => exact ⟨x % 5, tp, by omega, by simpa using hv.symm, by simp, by simp⟩
      | 1, _ => exact ⟨x / 5 % 6, tq, by omega, by simpa using hv.symm, by simp, by simp⟩
    have hyl : ([pieceW.getD (x % 5) [], pieceW.getD (x / 5 % 6) []].take j).flatten.length < 1000 := by
      have : ∀ p, p < 6 → (pieceW.getD p []).length ≤ 3 := by decide
      have q1 := this (x % 5) (by omega)
      have q2 := this (x / 5 % 6) (by omega)
      match j, hj2 with
      | 0, _ => exact (by decide : 0 < 1000)
      | 1, _ => simp only [List.take_succ_cons, List.take_zero, List.flatten_cons, List.flatten_nil, List.append_nil]; omega
    refine wpAny_assign_Name (stv F₆ N₆ fun h₇ tk₇ F₇ N₇ => ?_)
    dsimp only at F₇ N₇ ⊢
    refine piece_turn (pre := [(J, o₆), (I, oI)]) (post := [(td, listOf (List.map sv ps).toArray k)]) (x := x) (p := p) (us := us') R F₇ N₇ ?_ ?_ (by walk_at "lk") (by walk_at "lk") (by walk_at "lk") upd_self ((upd_ne (by decide)).trans mw) hp6 hyl (by omega) fun h₈ tk₈ t₈ t₈' F₈ N₈ => ?_
    · intro p hp
      simp only [List.mem_cons, List.not_mem_nil, or_false] at hp
      rcases hp with rfl | rfl
      · exact hJ2.symm
      · exact h1.symm
    · intro p hp; simp only [List.mem_singleton] at hp; subst hp; exact h3
    · refine ⟨B', h₈, tk₈, _, _, rfl, fun _ _ e => e, F₈, N₈, ?_, rfl, _, _, t₈', rfl, ?_, ?_, by walk_at "lk", by walk_at "lk", by walk_at "lk", by walk_at "lk", by walk_at "lk"⟩
      · intro p hp
        rcases List.mem_cons.mp hp with rfl | hp
        · exact hJ1
        rcases List.mem_cons.mp hp with rfl | hp
        · exact hJ2
        rcases List.mem_cons.mp hp with rfl | hp
        · exact hJ3
        · cases hp
      · rw [List.map_append, hus, es, List.map_append, List.append_assoc]; rfl
      · rw [ew]; exact upd_self
  · rintro B' h₆ tk₆ m₆ led₆ g₆ F₆ N₆ ⟨rfl, us', n', t, rfl, hus, mw, ms', mt', mh', ma', mz'⟩
    have hul : us'.length ≤ us.length + 2 := by
      have := congrArg List.length hus
      simp only [List.length_map, List.length_append, List.length_take, List.length_cons, List.length_nil] at this
      omega
    refine turn_tail (x := x) R F₆ N₆ h1 h2 h3 ms' mt' mh' mw (by omega) (by omega) fun h₇ tk₇ t₇ F₇ N₇ => ?_
    refine h B' h₇ tk₇ _ _ _ _ _ g₅ F₇ N₇ ?_ ?_ ms' mt'
    · rw [List.map_append, hus]
      simp [bookOf]
    · rw [List.map_append]
      simp [wordOf]
  · intro i s' v Q' E' o' ho hO' hP hi hq
    exact wpAny_of_eq rfl hq
end
end Mine

namespace Mine
local macro_rules | `(tactic| walk_at "lk") => `(tactic| first | with_reducible assumption | exact upd_self | (refine (upd_ne (by decide)).trans ?_; walk_at "lk") | exact rfl)

theorem join_signs (cs : List Nat) : Txt.join (Str.ofString "") (cs.map fun c => S [c]) = S cs := by
  show Builtin.Str.glued (Str.ofString "") _ = _
  rw [StrLaws.glued_eq_join]
  have e0 : (Str.ofString "") = S [] := by decide +kernel
  rw [e0]
  induction cs with
  | nil => rfl
  | cons c r ih =>
    cases r with
    | nil => rfl
    | cons d r =>
      show S [c] ++ S [] ++ Str.join (S []) ((d :: r).map fun c => S [c]) = _
      rw [ih, S_app, S_app]
      rfl

theorem book_nat {zs : List Int} {us rs : List IT} (h1 : us.map (·.1) = (zs.take 4).map (fun z => z % 1000000)) (h2 : rs.map (·.1) = tailCs.map (·.1)) :
    (us ++ rs.drop us.length).map (·.1) = (drawnL zs).map Int.ofNat := by
  have hl : us.length = (zs.take 4).length := by have := congrArg List.length h1; simpa using this
  rw [List.map_append, List.map_drop, h1, h2, hl]
  unfold drawnL
  rw [List.map_append, List.map_map, List.map_drop]
  congr 1
  apply List.map_congr_left
  intro z _
  show z % 1000000 = ((z % 1000000).toNat : Int)
  omega

inductive BookI (sg td : Addr) (xs : List Nat) (i : Nat) (m' : Str → Option Value) (led' : List (Addr × Obj)) : Prop
  | mk : ∀ us ps n k, led' = [(sg, listOf (List.map iv us).toArray n), (td, listOf (List.map sv ps).toArray k)] → us.map (·.1) = ((xs.take i).flatMap bookOf).map Int.ofNat → ps.map (·.1) = (xs.take i).map wordOf → m' "signs" = some (.ref sg) → m' "told" = some (.ref td) → BookI sg td xs i m' led'

set_option maxHeartbeats 4000000 in
theorem book_call {w : World} {A : Around} {E : Value → Shared → Prop} {s : Shared} {l : Addr} {ad : Nat → Addr} {mg mb : Str → Option Value} {rs : List IT} {Q : Value → Shared → Prop}
    (G : Gnd ad mg mb s.heap) (R : Rm A 2) (hl : s.heap.IsList l (rs.map iv).toArray) (hz : rs.length < 1000)
    (h : ∀ h' tk T td t ps n, Grown s.heap h' → s.heap.get? td = none → h'.get? T = some (tupOf #[.str (S ((drawnL (rs.map (·.1))).flatMap bookOf)) t, .ref td]) → h'.get? td = some (listOf (List.map sv ps).toArray n) →
      ps.map (·.1) = (drawnL (rs.map (·.1))).map wordOf → Q (.ref T) { s with heap := h', toks := tk }) :
    wpAny (model P0 w) A (call (.ref (ad 17)) [.ref l] []) Q E s := by
  obtain ⟨_, hf⟩ := G.fnOf 17 "_law_book" (by decide)
  refine enter (binds := [("script", .ref l)]) hf G.nolimit R.d (fun _ _ _ => BindsTo.of_eq rfl) fun h₁ cd hns hk => ?_
  have F := Loc.start hns hk
  replace R := R.deep (envOf "_law_book" (sco 17) s.heap.objs.size (ad 17) cd)
  have R0 : Rm _ 0 := R.low
  refine wpAny_execs_cons ?_
  refine drawn_stmt R0 F hl hz rfl fun h₂ tk₂ D us n F₂ N₂ hus => ?_
  have hul : us.length ≤ 4 := by
    have := congrArg List.length hus
    simp only [List.length_map, List.length_take] at this
    omega
  refine wpAny_execs_cons ?_
  refine wpAny_Assign_Name (wpAny_BinOp (ldv (by exact F₂) upd_self ?_))
  refine sub_list ?_
  refine cints_list tailCs rfl (by decide) fun h₃ r₃ tk₃ rs₃ k₃ n₃ o₃ e₃ => ?_
  have F₃ := F₂.grow k₃
  have N₃ := News.grow' N₂ k₃
  have hrl : rs₃.length = 4 := by have := congrArg List.length e₃; simpa [tailCs] using this
  have oD := N₃.get (.head _)
  refine Call_Name1 (ldb F₃ G boot_len (callWith_builtin1 (ldv F₃ upd_self (len_list ⟨_, oD, rfl, _, rfl⟩ (by simp; omega) (wpAny_pure ?_)))))
  refine ⟨r₃, rs₃.map iv, some ((us.length : Nat) : Int), none, rfl, ⟨_, o₃, rfl, _, rfl⟩, by simp; omega, by simp; exact .int _ _, .none, fun h₄ r₄ k₄ n₄ o₄ => ?_⟩
  rw [slice_from', ← List.map_drop] at o₄
  have F₄ := F₃.grow k₄
  have N₄ := News.grow' N₃ k₄
  refine add_lists' (N₄.get (.head _)) o₄ (by simp; omega) fun h₅ r₅ k₅ n₅ o₅ => ?_
  rw [← List.map_append] at o₅
  have F₅ := F₄.grow k₅
  have N₅ := News.join F₄ (News.nil (L := s.heap.objs.size)) k₅ n₅ o₅
  have hxs := book_nat hus e₃
  have hql : (us ++ rs₃.drop us.length).length ≤ 8 := by simp; omega
  generalize us ++ rs₃.drop us.length = qs at *
  generalize hXs : drawnL (rs.map (·.1)) = xs at *
  have hxl : qs.length = xs.length := by have := congrArg List.length hxs; simpa using this
  refine stv F₅ N₅ fun h₆ tk₆ F₆ N₆ => ?_
  obtain ⟨B₇, g₇, F₇, _, hin₇⟩ := rebase F₆ (News.nil (L := s.heap.objs.size))
  have hr5 : B₇.get? r₅ = some (listOf (List.map iv qs).toArray 0) := hin₇ _ _ (N₆.get (.head _)) (N₆ _ (.head _)).2.1 (fun p hp => noMem hp)
  have G₇ := G.keeps g₇
  dsimp only at F₇ ⊢
  refine wpAny_execs_cons ?_
  refine asg2 R.handled (spl2 (list_disp (spliced_nil ⟨by simp, fun h₈ sg k₈ n₈ o₈ => list_disp (spliced_nil ⟨by simp, fun h₉ td k₉ n₉ o₉ => ⟨_, _, rfl, fun h₁₀ k₁₀ => ?_⟩⟩)⟩)))
  have F₈ := F₇.grow k₈
  have N₈ := News.join F₇ (News.nil (L := s.heap.objs.size)) k₈ n₈ o₈
  have F₉ := F₈.grow k₉
  have N₉ : News B₇ s.heap.objs.size h₉ [(sg, listOf ([] : List Value).toArray 0), (td, listOf ([] : List Value).toArray 0)] := News.sub (News.join F₈ N₈ k₉ n₉ o₉) fun p hp => by
    simp only [List.mem_cons, List.not_mem_nil, or_false] at hp ⊢
    exact hp.symm
  have h3 : td ≠ sg := ((fresh_out F₈ N₈ n₉).2 _ (.head _)).symm
  have F₁₀ := F₉.grow k₁₀
  have N₁₀ := News.grow' N₉ k₁₀
  refine stv F₁₀ N₁₀ fun h₁₁ _ F₁₁ N₁₁ => stv F₁₁ N₁₁ fun h₁₂ tk₁₂ F₁₂ N₁₂ => ?_
  dsimp only at F₁₂ N₁₂ ⊢
  refine wpAny_execs_cons ?_
  refine wpAny_For (ldv F₁₂ (by walk_at "lk") (iter_list (l := r₅) (items := (List.map iv qs).toArray) ⟨_, F₁₂.keep _ _ hr5, rfl, _, rfl⟩ fun h₁₃ I oI k₁₃ n₁₃ o₁₃ hO => ?_))
  have F₁₃ := F₁₂.grow k₁₃
  have N₁₃ := News.join F₁₂ N₁₂ k₁₃ n₁₃ o₁₃
  have out := (fresh_out F₁₂ N₁₂ n₁₃).2
  have h1 : sg ≠ I := out _ (.head _)
  have h2 : td ≠ I := out _ (.tail _ (.head _))
  have htd : s.heap.get? td = none := by
    cases e : s.heap.get? td with
    | none => rfl
    | some o => have := g₇ _ _ e; rw [(N₁₂ _ (.tail _ (.head _))).2.2] at this; cases this
  refine for_it (Iter.list R.handled I r₅ _) (fun h k => ⟨_, k _ _ hr5, rfl, _, rfl⟩)
    (fun i B' m' led' => BookI sg td xs i m' led')
    F₁₃ N₁₃ out hO ⟨[], [], 0, 0, rfl, rfl, rfl, by walk_at "lk", by walk_at "lk"⟩ ?_ ?_ ?_
  · rintro i v B' h₁₄ tk₁₄ m₁₄ led₁₄ o₁₄ hi hv g₁₄ F₁₄ N₁₄ hnd ⟨us', ps', n', k', rfl, eu, ep, ms, mt⟩
    have hi' : i < qs.length := by simpa using hi
    have hix : i < xs.length := by omega
    have hv' : v = iv qs[i] := by simpa [hi'] using hv.symm
    have hq : qs[i].1 = ((xs[i] : Nat) : Int) := by
      have : (qs.map (·.1))[i]? = (xs.map Int.ofNat)[i]? := by rw [hxs]
      simpa [hi', hix] using this
    have hv2 : v = .int ((xs[i] : Nat) : Int) qs[i].2 := by rw [hv', ← hq]
    rw [hv2]
    have hus' : us'.length = 3 * i := by
      have := congrArg List.length eu
      rw [List.length_map, List.length_map, book_len, List.length_take] at this
      omega
    have hps' : ps'.length = i := by
      have := congrArg List.length ep
      rw [List.length_map, List.length_map, List.length_take] at this
      omega
    refine wpAny_assign_Name (stv F₁₄ N₁₄ fun h₁₅ tk₁₅ F₁₅ N₁₅ => ?_)
    dsimp only at F₁₅ N₁₅ ⊢
    refine book_turn (x := xs[i]) R0 F₁₅ N₁₅ h1 h2 h3 upd_self (by walk_at "lk") (by walk_at "lk") (by omega) (by omega) fun B₁₆ h₁₆ tk₁₆ m₁₆ us₁₆ ps₁₆ n₁₆ k₁₆ g₁₆ F₁₆ N₁₆ eu₁₆ ep₁₆ ms₁₆ mt₁₆ => ?_
    refine ⟨B₁₆, h₁₆, tk₁₆, m₁₆, _, rfl, g₁₆, F₁₆, N₁₆, ?_, us₁₆, ps₁₆, n₁₆, k₁₆, rfl, ?_, ?_, ms₁₆, mt₁₆⟩
    · intro p hp
      rcases List.mem_cons.mp hp with rfl | hp
      · exact h1
      rcases List.mem_cons.mp hp with rfl | hp
      · exact h2
      · cases hp
    · rw [eu₁₆, eu, List.take_add_one, List.getElem?_eq_getElem hix, List.flatMap_append, List.map_append]
      simp
    · rw [ep₁₆, ep, List.take_add_one, List.getElem?_eq_getElem hix, List.map_append]
      simp
  · rintro B' h₁₄ tk₁₄ m₁₄ led₁₄ g₁₄ F₁₄ N₁₄ ⟨us', ps', n', k', rfl, eu, ep, ms, mt⟩
    rw [List.take_of_length_le (by simp; omega)] at eu ep
    have gB : Grown s.heap B' := Grown.trans g₇ g₁₄
    have hul' : us'.length ≤ 24 := by
      have := congrArg List.length eu
      rw [List.length_map, List.length_map, book_len] at this
      omega
    refine wpAny_execs_cons ?_
    refine wpAny_Return_some (tup_disp (spl2 ?_))
    refine MethodCall_ (wpAny_Constant_str (GM.join ?_))
    refine Calls.callWith_builtin rfl (Calls.evalArgs_plain (spliced_cons ?_))
    refine comp1_eval (comp1 (cl := []) rfl ?_)
    refine ldv (by exact F₁₄) ms (iter_list (items := (List.map iv us').toArray) ⟨_, N₁₄.get (.head _), rfl, _, rfl⟩ fun h₁₅ J o k₁₅ n₁₅ o₁₅ hO => ?_)
    have F₁₅ := F₁₄.grow k₁₅
    have N₁₅ := News.grow' N₁₄ k₁₅
    have outJ := (fresh_out F₁₄ N₁₄ n₁₅).2
    have hold : ∀ b o, h₁₄.get? b = some o → (h₁₅.hide J).get? b = some o := fun b o e => by
      rw [Heap.hide_ne _ (fun q => by rw [q] at e; rw [e] at n₁₅; cases n₁₅)]
      exact k₁₅ _ _ e
    have hsg := hold _ _ (N₁₄.get (.head _))
    refine ⟨J, _, _, _, _, o, fun i _ acc => ∃ ws : List WT, acc = ws.map sv ∧ ws.map (·.1) = ((xs.flatMap bookOf).take i).map (fun c => [c]), rfl, Iter.list R.handled J sg _, fun h k => ⟨_, k _ _ hsg, rfl, _, rfl⟩, o₁₅, hO, ⟨[], rfl, by simp⟩, ?_, ?_, ?_⟩
    · rintro i _ acc ⟨ws, rfl, hw⟩
      have := congrArg List.length hw
      rw [List.length_map, List.length_map, List.length_take, book_len] at this
      rw [List.length_map]
      omega
    · rintro i v C D' B₁₆ h₁₆ tk₁₆ m₁₆ acc kk o' hi hv hg F' N' ⟨ws, rfl, hw⟩
      have hi' : i < us'.length := by simpa using hi
      have hib : i < (xs.flatMap bookOf).length := by have := congrArg List.length eu; simp only [List.length_map] at this; omega
      have hq : us'[i].1 = (((xs.flatMap bookOf)[i] : Nat) : Int) := by
        have : (us'.map (·.1))[i]? = ((xs.flatMap bookOf).map Int.ofNat)[i]? := by rw [eu]
        rw [List.getElem?_map, List.getElem?_map, List.getElem?_eq_getElem hi', List.getElem?_eq_getElem hib] at this
        simpa using this
      have hv2 : v = .int (((xs.flatMap bookOf)[i] : Nat) : Int) us'[i].2 := by
        have : v = iv us'[i] := by simpa [hi'] using hv.symm
        rw [this, ← hq]
      rw [hv2]
      have hc := (book_ok xs _ (List.getElem_mem hib)).1
      generalize hcx : (xs.flatMap bookOf)[i] = c at hc
      refine wpAny_assign_Name (stE F' N' fun h₁₇ tk₁₇ F₁₇ N₁₇ => wpAny_tests_nil ?_)
      rw [if_pos rfl]
      have gJ : Grown s.heap B₁₆ := fun b o e => hg _ _ (hold _ _ (F₁₄.keep _ _ (gB _ _ e)))
      refine Call_Name1 (ldbE F₁₇ (G.keeps gJ) boot_chr (callWith_builtin1 (ldE F₁₇ upd_self (PySem.P.chr_of_int (by simp; omega) ?_))))
      refine ⟨B₁₆, h₁₇, _, _, rfl, fun _ _ e => e, F₁₇, N₁₇, ws ++ [([c], tk₁₇)], by simp, ?_⟩
      rw [List.map_append, hw, List.take_add_one, List.getElem?_eq_getElem hib, hcx, List.map_append]
      rfl
    · rintro B₁₆ C h₁₆ tk₁₆ m₁₆ D' acc kk hg F' N' ⟨ws, rfl, hw⟩
      refine ⟨m₁₆, F'.ns, fun h₁₇ s₁₇ => ?_⟩
      rw [List.take_of_length_le (by have := congrArg List.length eu; simp only [List.length_map] at this; simp only [List.size_toArray, List.length_map]; omega)] at hw
      have hD := N' _ (.head _)
      have o₁₇ : h₁₇.get? D' = some (listOf (List.map sv ws).toArray kk) := (s₁₇.2 D' hD.2.1).trans hD.1
      have k₁₇ : Grown h₁₄ h₁₇ := fun b o e => by
        have e1 : B₁₆.get? b = some o := hg b o (hold b o e)
        have hC : b ≠ C := fun q => by rw [q, F'.free] at e1; cases e1
        exact (s₁₇.2 b hC).trans (F'.keep b o e1)
      have F₁₇ := F₁₄.grow k₁₇
      have N₁₇ := News.grow' N₁₄ k₁₇
      have hcar : CarriedAll (ws.map sv) ((xs.flatMap bookOf).map fun c => PyData.str (S [c])) := by
        have := carried_strs ws
        have e : (ws.map fun p => PyData.str (S p.1)) = ((xs.flatMap bookOf).map fun c => PyData.str (S [c])) := by
          have : (ws.map (·.1)).map (fun x => PyData.str (S x)) = (((xs.flatMap bookOf)).map (fun c => [c])).map (fun x => PyData.str (S x)) := by rw [hw]
          rw [List.map_map, List.map_map] at this
          exact this
        rw [← e]; exact this
      refine spliced_nil (KT.join_1 (g := fun c => S [c]) ⟨_, o₁₇, rfl, _, rfl⟩ hcar (fun _ _ => rfl) (by rw [book_len]; omega) fun t' tk' _ => ?_)
      rw [join_signs]
      refine ldv (by exact F₁₇) mt ⟨by simp, fun h₁₈ T k₁₈ n₁₈ o₁₈ => ?_⟩
      exact h h₁₈ _ T td t' ps' k' (Grown.trans gB (Grown.trans F₁₇.keep k₁₈)) htd o₁₈ (k₁₈ _ _ (N₁₇.get (.tail _ (.head _)))) ep
  · intro i s' v Q' E' o' ho hO' hP hi hq
    exact wpAny_of_eq rfl hq
end Mine

namespace Mine

noncomputable abbrev bi {α : Type} (f t : α) (c : Bool) : α := Bool.rec (motive := fun _ => α) f t c

/- the pure functions once more, in a form that the kernel reckons fast -/
noncomputable def ltB (a : List Nat) : List Nat → Bool :=
  List.rec (motive := fun _ => List Nat → Bool) (fun b => List.rec (motive := fun _ => Bool) false (fun _ _ _ => true) b)
    (fun x _ ih b => List.rec (motive := fun _ => Bool) false (fun y t _ => bi (bi false (ih t) (Nat.beq x y)) true (Nat.ble (Nat.succ x) y)) b) a
noncomputable def eqB (a : List Nat) : List Nat → Bool :=
  List.rec (motive := fun _ => List Nat → Bool) (fun b => List.rec (motive := fun _ => Bool) true (fun _ _ _ => false) b)
    (fun x _ ih b => List.rec (motive := fun _ => Bool) false (fun y t _ => bi false (ih t) (Nat.beq x y)) b) a
noncomputable def prB (a : List Nat) : List Nat → Bool :=
  List.rec (motive := fun _ => List Nat → Bool) (fun _ => true)
    (fun x _ ih b => List.rec (motive := fun _ => Bool) false (fun y t _ => bi false (ih t) (Nat.beq x y)) b) a
noncomputable def memB (x : List Nat) (l : List (List Nat)) : Bool := List.rec (motive := fun _ => Bool) false (fun y _ ih => bi ih true (eqB x y)) l
noncomputable def nilB {α : Type} (l : List α) : Bool := List.rec (motive := fun _ => Bool) true (fun _ _ _ => false) l
noncomputable def appB {α : Type} (a b : List α) : List α := List.rec (motive := fun _ => List α) b (fun x _ ih => x :: ih) a
noncomputable def headB (a : List Nat) : Nat := List.rec (motive := fun _ => Nat) 0 (fun x _ _ => x) a
noncomputable def tailB (a : List Nat) : List Nat := List.rec (motive := fun _ => List Nat) [] (fun _ r _ => r) a
noncomputable def lenB {α : Type} (l : List α) : Nat := List.rec (motive := fun _ => Nat) 0 (fun _ _ ih => Nat.succ ih) l
noncomputable def filtB {α : Type} (p : α → Bool) (l : List α) : List α := List.rec (motive := fun _ => List α) [] (fun x _ ih => bi ih (x :: ih) (p x)) l
noncomputable def cntB {α : Type} (p : α → Bool) (l : List α) : Nat := List.rec (motive := fun _ => Nat) 0 (fun x _ ih => bi ih (Nat.succ ih) (p x)) l
noncomputable def allB {α : Type} (p : α → Bool) (l : List α) : Bool := List.rec (motive := fun _ => Bool) true (fun x _ ih => bi false ih (p x)) l

theorem ltB_eq : ∀ a b : List Nat, decide (a < b) = ltB a b := by
  intro a
  induction a with
  | nil => intro b; cases b <;> simp [ltB]
  | cons x a ih =>
    intro b
    cases b with
    | nil => simp [ltB]
    | cons y b =>
    replace ih := ih b
    show _ = bi (bi false (ltB a b) (Nat.beq x y)) true (Nat.ble (Nat.succ x) y)
    rw [← ih]
    cases h1 : Nat.ble (Nat.succ x) y with
    | true =>
      have : x < y := Nat.le_of_ble_eq_true h1
      simp [List.cons_lt_cons_iff, this]
    | false =>
      have n1 : ¬ x < y := fun h => by rw [Nat.ble_eq_true_of_le h] at h1; cases h1
      cases h2 : Nat.beq x y with
      | true =>
        have : x = y := Nat.eq_of_beq_eq_true h2
        subst this
        simp
      | false =>
        have : ¬ x = y := fun h => by subst h; rw [Nat.beq_refl] at h2; cases h2
        simp [List.cons_lt_cons_iff, this, n1]
theorem eqB_eq : ∀ a b : List Nat, decide (a = b) = eqB a b := by
  intro a
  induction a with
  | nil => intro b; cases b <;> simp [eqB]
  | cons x a ih =>
    intro b
    cases b with
    | nil => simp [eqB]
    | cons y b =>
    replace ih := ih b
    show _ = bi false (eqB a b) (Nat.beq x y)
    rw [← ih]
    cases h2 : Nat.beq x y with
    | true =>
      have : x = y := Nat.eq_of_beq_eq_true h2
      subst this
      simp
    | false =>
      have : ¬ x = y := fun h => by subst h; rw [Nat.beq_refl] at h2; cases h2
      simp [this]
theorem prB_eq : ∀ a b : List Nat, a.isPrefixOf b = prB a b := by
  intro a
  induction a with
  | nil => intro b; cases b <;> rfl
  | cons x a ih =>
    intro b
    cases b with
    | nil => rfl
    | cons y b =>
    replace ih := ih b
    show _ = bi false (prB a b) (Nat.beq x y)
    rw [← ih]
    show ((x == y) && a.isPrefixOf b) = _
    have : (x == y) = Nat.beq x y := by
      rw [Bool.eq_iff_iff, beq_iff_eq, Nat.beq_eq]
    rw [this]
    cases Nat.beq x y <;> rfl
theorem memB_eq (x : List Nat) : ∀ l : List (List Nat), decide (x ∈ l) = memB x l := by
  intro l
  induction l with
  | nil => simp [memB]
  | cons y r ih =>
    show _ = bi (memB x r) true (eqB x y)
    rw [← ih, ← eqB_eq]
    by_cases h : x = y <;> simp [h]
theorem appB_eq {α : Type} (a b : List α) : a ++ b = appB a b := by
  induction a with
  | nil => rfl
  | cons x r ih => show x :: (r ++ b) = x :: appB r b; rw [ih]
theorem lenB_eq {α : Type} (a : List α) : a.length = lenB a := by
  induction a with
  | nil => rfl
  | cons x r ih => show r.length + 1 = Nat.succ (lenB r); rw [ih]
theorem filtB_eq {α : Type} (p : α → Bool) (a : List α) : a.filter p = filtB p a := by
  induction a with
  | nil => rfl
  | cons x r ih =>
    show _ = bi (filtB p r) (x :: filtB p r) (p x)
    rw [List.filter_cons, ← ih]
    cases p x <;> rfl
theorem cntB_eq {α : Type} (p : α → Bool) (a : List α) : a.countP p = cntB p a := by
  induction a with
  | nil => rfl
  | cons x r ih =>
    show _ = bi (cntB p r) (Nat.succ (cntB p r)) (p x)
    rw [List.countP_cons, ← ih]
    cases p x <;> rfl
theorem allB_eq {α : Type} (p : α → Bool) (a : List α) : a.all p = allB p a := by
  induction a with
  | nil => rfl
  | cons x r ih =>
    show _ = bi false (allB p r) (p x)
    rw [List.all_cons, ← ih]
    cases p x <;> rfl
theorem nilB_eq {α : Type} [DecidableEq α] (a : List α) : decide (a = []) = nilB a := by cases a <;> rfl
theorem headB_eq (a : List Nat) : a.headD 0 = headB a := by cases a <;> rfl
theorem tailB_eq (a : List Nat) : a.tail = tailB a := by cases a <;> rfl

noncomputable def crossF (high : List Nat) (ws : List (List Nat)) : List PR := List.rec (motive := fun _ => List PR) [] (fun w _ ih => (w, high) :: ih) ws
theorem crossF_eq (high : List Nat) (ws : List (List Nat)) : (ws.map fun x => (x, high)) = crossF high ws := by
  induction ws with
  | nil => rfl
  | cons x r ih => show (x, high) :: _ = (x, high) :: crossF high r; rw [← ih]
noncomputable def keyB (low high : List Nat) : List Nat := appB low (46 :: high)
theorem keyB_eq (low high : List Nat) : keyOf low high = keyB low high := by
  unfold keyOf keyB
  rw [← appB_eq, List.append_assoc]; rfl
noncomputable def meetF (ws : List (List Nat)) (low high : List Nat) (seen : List (List Nat)) (after : List PR) (go : List (List Nat) → List PR → Option (List (List Nat) × List PR)) : Option (List (List Nat) × List PR) :=
  bi (bi (go (keyB low high :: seen) (appB after (bi [(low, high)] (crossF high ws) (nilB low)))) (go seen after) (memB (keyB low high) seen)) none (nilB high)
noncomputable def lvlF (ws : List (List Nat)) (l : List PR) : List (List Nat) → List PR → Option (List (List Nat) × List PR) :=
  List.rec (motive := fun _ => List (List Nat) → List PR → Option (List (List Nat) × List PR)) (fun seen after => some (seen, after)) (fun p _ ih seen after =>
    bi (ih seen after)
      (bi (meetF ws (tailB p.2) (tailB p.1) seen after ih) (meetF ws (tailB p.1) (tailB p.2) seen after ih) (ltB (tailB p.1) (tailB p.2)))
      (Nat.beq (headB p.1) (headB p.2))) l
noncomputable def readF (ws : List (List Nat)) (f : Nat) : List PR → List (List Nat) → Nat → Option Nat :=
  Nat.rec (motive := fun _ => List PR → List (List Nat) → Nat → Option Nat) (fun _ _ _ => none) (fun _ ih level seen size =>
    bi (Option.rec (motive := fun _ => Option Nat) (some (Nat.succ size)) (fun sa => bi none (bi none (ih sa.2 sa.1 (Nat.succ size)) (Nat.ble (Nat.succ (lenB sa.2)) 2000)) (Nat.ble (Nat.succ (lenB sa.1)) 2000)) (lvlF ws level seen [])) (some 0) (nilB level)) f

theorem minmax (a b : List Nat) : (ltB a b = true → minL a b = a ∧ maxL a b = b) ∧ (ltB a b = false → minL a b = b ∧ maxL a b = a) := by
  rw [← ltB_eq]
  constructor
  · intro h
    have h := of_decide_eq_true h
    exact ⟨if_neg (lt_asymm' h), if_pos h⟩
  · intro h
    have h := of_decide_eq_false h
    unfold minL maxL
    rw [if_neg h]
    by_cases q : b < a
    · rw [if_pos q]; exact ⟨rfl, rfl⟩
    · rw [if_neg q]
      rcases lt_or h with c | c
      · exact absurd c q
      · subst c; exact ⟨rfl, rfl⟩
noncomputable def turn (o : Option (List (List Nat) × List PR)) : Option (List (List Nat) × List PR) := o.map fun sa => (sa.1.reverse, sa.2)
theorem meetF_eq (ws : List (List Nat)) (low high : List Nat) (seen : List (List Nat)) (after : List PR) (go go' : List (List Nat) → List PR → Option (List (List Nat) × List PR)) (hg : ∀ s a, go' s.reverse a = turn (go s a)) :
    meetF ws low high seen.reverse after go' = turn (if high = [] then none else if keyOf low high ∈ seen then go seen after else go (seen ++ [keyOf low high]) (after ++ if low = [] then ws.map fun x => (x, high) else [(low, high)])) := by
  unfold meetF
  rw [← keyB_eq, ← nilB_eq high, ← memB_eq, ← nilB_eq low, ← appB_eq, ← crossF_eq]
  by_cases h1 : high = []
  · rw [if_pos h1]; simp [h1, turn]
  · rw [if_neg h1, decide_eq_false h1]
    by_cases h2 : keyOf low high ∈ seen
    · rw [if_pos h2, decide_eq_true (List.mem_reverse.mpr h2)]
      exact hg seen after
    · rw [if_neg h2, decide_eq_false (fun c => h2 (List.mem_reverse.mp c)), ← hg, List.reverse_append]
      show go' _ _ = go' _ _
      by_cases h3 : low = []
      · rw [if_pos h3, decide_eq_true h3]; rfl
      · rw [if_neg h3, decide_eq_false h3]; rfl
theorem lvlF_eq (ws : List (List Nat)) : ∀ (l : List PR) (seen : List (List Nat)) (after : List PR), lvlF ws l seen.reverse after = turn (lvl ws l seen after) := by
  intro l
  induction l with
  | nil => intro _ _; rfl
  | cons p r ih =>
    obtain ⟨a, b⟩ := p
    intro seen after
    show bi (lvlF ws r seen.reverse after) (bi (meetF ws (tailB b) (tailB a) seen.reverse after (lvlF ws r)) (meetF ws (tailB a) (tailB b) seen.reverse after (lvlF ws r)) (ltB (tailB a) (tailB b))) (Nat.beq (headB a) (headB b)) = _
    rw [← tailB_eq, ← tailB_eq, ← headB_eq, ← headB_eq, meetF_eq _ _ _ _ _ _ _ ih, meetF_eq _ _ _ _ _ _ _ ih, lvl, ih]
    obtain ⟨m1, m2⟩ := minmax a.tail b.tail
    cases h1 : Nat.beq (a.headD 0) (b.headD 0) with
    | false =>
      have : ¬ a.headD 0 = b.headD 0 := fun h => by rw [h, Nat.beq_refl] at h1; cases h1
      rw [if_neg this]
    | true =>
      rw [if_pos (Nat.eq_of_beq_eq_true h1)]
      cases h2 : ltB a.tail b.tail with
      | true => obtain ⟨e1, e2⟩ := m1 h2; rw [e1, e2]
      | false => obtain ⟨e1, e2⟩ := m2 h2; rw [e1, e2]
theorem readF_eq (ws : List (List Nat)) : ∀ (f : Nat) (level : List PR) (seen : List (List Nat)) (size : Nat), readL ws f level seen size = readF ws f level seen.reverse size := by
  intro f
  induction f with
  | zero => intro _ _ _; rfl
  | succ f ih =>
    intro level seen size
    show _ = bi (Option.rec (motive := fun _ => Option Nat) (some (Nat.succ size)) (fun sa => bi none (bi none (readF ws f sa.2 sa.1 (Nat.succ size)) (Nat.ble (Nat.succ (lenB sa.2)) 2000)) (Nat.ble (Nat.succ (lenB sa.1)) 2000)) (lvlF ws level seen.reverse [])) (some 0) (nilB level)
    rw [readL, lvlF_eq, ← nilB_eq]
    by_cases h : level = []
    · rw [if_pos h, decide_eq_true h]
    · rw [if_neg h, decide_eq_false h]
      cases hl : lvl ws level seen [] with
      | none => rfl
      | some sa =>
        obtain ⟨s', a'⟩ := sa
        show (if s'.length < 2000 ∧ a'.length < 2000 then _ else _) = bi none (bi none (readF ws f a' s'.reverse (Nat.succ size)) (Nat.ble (Nat.succ (lenB a')) 2000)) (Nat.ble (Nat.succ (lenB s'.reverse)) 2000)
        rw [← lenB_eq, ← lenB_eq, ih, List.length_reverse]
        have e : ∀ n, Nat.ble (Nat.succ n) 2000 = decide (n < 2000) := fun n => by
          rw [Bool.eq_iff_iff, decide_eq_true_eq]
          rw [Nat.ble_eq]; rfl
        rw [e, e]
        by_cases h1 : s'.length < 2000 <;> by_cases h2 : a'.length < 2000 <;> simp [h1, h2]
theorem readF_nil (ws : List (List Nat)) (f : Nat) (level : List PR) (size : Nat) : readL ws f level [] size = readF ws f level [] size := readF_eq ws f level [] size
noncomputable def rowF (a : List Nat) (ws : List (List Nat)) (t : List PR) : List PR := List.rec (motive := fun _ => List PR) t (fun b _ ih => bi ih ((a, b) :: ih) (ltB a b)) ws
noncomputable def pairsF (ws : List (List Nat)) : List PR := List.rec (motive := fun _ => List PR) [] (fun a _ ih => rowF a ws ih) ws
theorem rowF_eq (a : List Nat) (ws : List (List Nat)) (t : List PR) : ((ws.filter fun b => decide (a < b)).map fun b => (a, b)) ++ t = rowF a ws t := by
  induction ws with
  | nil => rfl
  | cons b r ih =>
    show _ = bi (rowF a r t) ((a, b) :: rowF a r t) (ltB a b)
    rw [← ih, ← ltB_eq, List.filter_cons]
    by_cases h : a < b <;> simp [h]
theorem pairsF_eq (ws : List (List Nat)) : pairs0 ws = pairsF ws := by
  have key : ∀ l : List (List Nat), (l.flatMap fun a => (ws.filter fun b => decide (a < b)).map fun b => (a, b)) = List.rec (motive := fun _ => List PR) [] (fun a _ ih => rowF a ws ih) l := by
    intro l
    induction l with
    | nil => rfl
    | cons a r ih =>
      rw [List.flatMap_cons, ih, rowF_eq]
  exact key ws
end Mine

namespace Mine

noncomputable def nthB {α : Type} (l : List α) : Nat → Option α := List.rec (motive := fun _ => Nat → Option α) (fun _ => none) (fun x _ ih k => Nat.rec (motive := fun _ => Option α) (some x) (fun k _ => ih k) k) l
noncomputable def dropB {α : Type} (l : List α) : Nat → List α := List.rec (motive := fun _ => Nat → List α) (fun _ => []) (fun x r ih k => Nat.rec (motive := fun _ => List α) (x :: r) (fun k _ => ih k) k) l
noncomputable def takeB {α : Type} (l : List α) : Nat → List α := List.rec (motive := fun _ => Nat → List α) (fun _ => []) (fun x _ ih k => Nat.rec (motive := fun _ => List α) [] (fun k _ => x :: ih k) k) l
noncomputable def eraB {α : Type} (l : List α) : Nat → List α := List.rec (motive := fun _ => Nat → List α) (fun _ => []) (fun x r ih k => Nat.rec (motive := fun _ => List α) r (fun k _ => x :: ih k) k) l
theorem nthB_eq {α : Type} : ∀ (l : List α) (k : Nat), l[k]? = nthB l k := by
  intro l
  induction l with
  | nil => intro k; cases k <;> rfl
  | cons x r ih => intro k; cases k with | zero => rfl | succ k => exact ih k
theorem dropB_eq {α : Type} : ∀ (l : List α) (k : Nat), l.drop k = dropB l k := by
  intro l
  induction l with
  | nil => intro k; cases k <;> rfl
  | cons x r ih => intro k; cases k with | zero => rfl | succ k => exact ih k
theorem takeB_eq {α : Type} : ∀ (l : List α) (k : Nat), l.take k = takeB l k := by
  intro l
  induction l with
  | nil => intro k; cases k <;> rfl
  | cons x r ih => intro k; cases k with | zero => rfl | succ k => exact congrArg (x :: ·) (ih k)
theorem eraB_eq {α : Type} : ∀ (l : List α) (k : Nat), l.eraseIdx k = eraB l k := by
  intro l
  induction l with
  | nil => intro k; cases k <;> rfl
  | cons x r ih => intro k; cases k with | zero => rfl | succ k => exact congrArg (x :: ·) (ih k)

noncomputable def putF (x : List Nat) (ws : List (List Nat)) : List (List Nat) := appB (filtB (fun y => ltB y x) ws) (x :: filtB (fun y => ltB x y) ws)
theorem putF_eq (x : List Nat) (ws : List (List Nat)) : putL x ws = putF x ws := by
  unfold putL putF
  rw [← appB_eq, ← filtB_eq, ← filtB_eq]
  simp only [ltB_eq]
noncomputable def partsF (n : Nat) : List (List Nat) → Nat → Option (List (List Nat)) :=
  Nat.rec (motive := fun _ => List (List Nat) → Nat → Option (List (List Nat))) (fun _ _ => none) (fun _ ih ws k =>
    Option.rec (motive := fun _ => Option (List (List Nat))) (some ws) (fun a => Option.rec (motive := fun _ => Option (List (List Nat))) (some ws) (fun b =>
      bi (ih ws (Nat.succ k)) (ih (putF (dropB b (lenB a)) (eraB ws (Nat.succ k))) 0) (prB a b)) (nthB ws (Nat.succ k))) (nthB ws k)) n
theorem partsF_eq : ∀ (n : Nat) (ws : List (List Nat)) (k : Nat), partsL n ws k = partsF n ws k := by
  intro n
  induction n with
  | zero => intro _ _; rfl
  | succ n ih =>
    intro ws k
    show _ = Option.rec (motive := fun _ => Option (List (List Nat))) (some ws) (fun a => Option.rec (motive := fun _ => Option (List (List Nat))) (some ws) (fun b =>
      bi (partsF n ws (Nat.succ k)) (partsF n (putF (dropB b (lenB a)) (eraB ws (Nat.succ k))) 0) (prB a b)) (nthB ws (Nat.succ k))) (nthB ws k)
    rw [partsL, ← nthB_eq, ← nthB_eq]
    cases h1 : ws[k]? with
    | none => rfl
    | some a =>
      cases h2 : ws[k + 1]? with
      | none => rfl
      | some b =>
        show (if a.isPrefixOf b = true then _ else _) = bi (partsF n ws (Nat.succ k)) (partsF n (putF (dropB b (lenB a)) (eraB ws (Nat.succ k))) 0) (prB a b)
        rw [← prB_eq, ← ih, ← ih, ← putF_eq, ← dropB_eq, ← lenB_eq, ← eraB_eq]
        cases a.isPrefixOf b <;> rfl
noncomputable def madeF (ws : List (List Nat)) (n : Nat) : List Nat → Bool :=
  Nat.rec (motive := fun _ => List Nat → Bool) (fun _ => true) (fun _ ih x => bi
    (Nat.rec (motive := fun _ => Bool) false (fun k _ => Option.rec (motive := fun _ => Bool) false (fun y => bi false (ih (dropB x (lenB y))) (prB y x)) (nthB ws k)) (cntB (fun y => bi true false (ltB x y)) ws)) true (nilB x)) n
theorem madeF_eq (ws : List (List Nat)) : ∀ (n : Nat) (x : List Nat), madeOf ws n x = madeF ws n x := by
  intro n
  induction n with
  | zero => intro _; rfl
  | succ n ih =>
    intro x
    show _ = bi (Nat.rec (motive := fun _ => Bool) false (fun k _ => Option.rec (motive := fun _ => Bool) false (fun y => bi false (madeF ws n (dropB x (lenB y))) (prB y x)) (nthB ws k)) (cntB (fun y => bi true false (ltB x y)) ws)) true (nilB x)
    have e : cntB (fun y => bi true false (ltB x y)) ws = ws.countP (fun y => !decide (x < y)) := by
      rw [← cntB_eq]
      congr 1
      funext y
      rw [← ltB_eq]
      cases decide (x < y) <;> rfl
    rw [madeOf, e, ← nilB_eq]
    by_cases h : x = []
    · rw [if_pos h, decide_eq_true h]
    · rw [if_neg h, decide_eq_false h]
      dsimp only
      cases ws.countP (fun y => !decide (x < y)) with
      | zero => rfl
      | succ k =>
        show (match ws[k]? with | some y => if y.isPrefixOf x = true then madeOf ws n (x.drop y.length) else false | none => false) = Option.rec (motive := fun _ => Bool) false (fun y => bi false (madeF ws n (dropB x (lenB y))) (prB y x)) (nthB ws k)
        rw [← nthB_eq]
        cases ws[k]? with
        | none => rfl
        | some y =>
          show (if y.isPrefixOf x = true then madeOf ws n (x.drop y.length) else false) = bi false (madeF ws n (dropB x (lenB y))) (prB y x)
          rw [← prB_eq, ← ih, ← dropB_eq, ← lenB_eq]
          cases y.isPrefixOf x <;> rfl

noncomputable def waitF (q : List QI) (e : QI) : List QI := appB (takeB q (cntB (fun o => Nat.ble o.size e.size) q)) (e :: dropB q (cntB (fun o => Nat.ble o.size e.size) q))
theorem waitF_eq (q : List QI) (e : QI) : waitL q e = waitF q e := by
  unfold waitL waitF
  rw [← appB_eq, ← takeB_eq, ← dropB_eq, ← cntB_eq]
  have : (fun o : QI => decide (o.size ≤ e.size)) = fun o => Nat.ble o.size e.size := by
    funext o
    rw [Bool.eq_iff_iff, decide_eq_true_eq, Nat.ble_eq]
  rw [this]
noncomputable def goF (f : Nat → List Nat → List QI → List QI) (ws : List (List Nat)) : Nat → List QI → List QI :=
  List.rec (motive := fun _ => Nat → List QI → List QI) (fun _ q => q) (fun w _ ih i q => ih (Nat.succ i) (f i w q)) ws
theorem range_go {g : List QI → Nat → List QI} {f : Nat → List Nat → List QI → List QI} (ws : List (List Nat)) (h : ∀ m b q, ws[m]? = some b → g q m = f m b q) :
    ∀ q, (List.range ws.length).foldl g q = goF f ws 0 q := by
  have key : ∀ (l : List (List Nat)) (i : Nat), (∀ j (hj : j < l.length), ws[i + j]? = some l[j]) → ∀ q, (List.range' i l.length).foldl g q = goF f l i q := by
    intro l
    induction l with
    | nil => intro i _ q; rfl
    | cons w r ih =>
      intro i hi q
      show (List.range' i (r.length + 1)).foldl g q = goF f r (Nat.succ i) (f i w q)
      rw [List.range'_succ, List.foldl_cons, h i w q (hi 0 (Nat.succ_pos _))]
      exact ih (i + 1) (fun j hj => by
        have := hi (j + 1) (by simpa using hj)
        rw [show i + 1 + j = i + (j + 1) by omega, this]; simp) _
  intro q
  rw [List.range_eq_range']
  exact key ws 0 (fun j hj => by simp [hj]) q
theorem begun_go {g : List QI → Nat → List QI} {f : Nat → List Nat → List QI → List QI} (ws : List (List Nat)) (x : List Nat) (h : ∀ m b q, ws[m]? = some b → g q m = f m b q) (q : List QI) :
    (begunR ws x).foldl g q = goF (fun m b q => bi q (f m b q) (prB x b)) ws 0 q := by
  unfold begunR
  rw [List.foldl_filter]
  refine range_go ws (fun m b q hm => ?_) q
  have hw : wd ws m = b := by unfold wd; rw [List.getD_eq_getElem?_getD, hm]; rfl
  rw [hw, ← prB_eq, h m b q hm]
  cases x.isPrefixOf b <;> rfl
noncomputable def startF (ws : List (List Nat)) : List QI :=
  goF (fun k a q => goF (fun m b q => bi q (bi (waitF q ⟨lenB b, dropB b (lenB a), [256 + k], [256 + m]⟩) q (Nat.beq m k)) (prB a b)) ws 0 q) ws 0 []
theorem startF_eq (ws : List (List Nat)) : startL ws = startF ws := by
  unfold startL startF
  refine range_go ws (fun k a q hk => ?_) []
  unfold outA
  have ha : wd ws k = a := by unfold wd; rw [List.getD_eq_getElem?_getD, hk]; rfl
  rw [ha]
  refine begun_go ws a (fun m b q hm => ?_) q
  have hb : wd ws m = b := by unfold wd; rw [List.getD_eq_getElem?_getD, hm]; rfl
  unfold inA qA
  rw [ha, hb, ← waitF_eq, ← lenB_eq, ← lenB_eq, ← dropB_eq]
  cases h : Nat.beq m k with
  | true => rw [if_pos (Nat.eq_of_beq_eq_true h)]
  | false => rw [if_neg (fun e => by rw [e, Nat.beq_refl] at h; cases h)]
noncomputable def cutF (ws : List (List Nat)) (e : QI) (cut : Nat) (q : List QI) : List QI :=
  bi q (waitF q ⟨e.size, dropB e.rest cut, appB e.behind [256 + cntB (fun y => ltB y (takeB e.rest cut)) ws], e.ahead⟩)
    (Option.rec (motive := fun _ => Bool) false (fun y => eqB y (takeB e.rest cut)) (nthB ws (cntB (fun y => ltB y (takeB e.rest cut)) ws)))
theorem cutF_eq (ws : List (List Nat)) (e : QI) (cut : Nat) (q : List QI) : inC ws e q cut = cutF ws e cut q := by
  have ec : cntB (fun y => ltB y (takeB e.rest cut)) ws = cutAt ws (e.rest.take cut) := by
    unfold cutAt
    rw [← cntB_eq, ← takeB_eq]
    simp only [ltB_eq]
  unfold inC cutF qC
  rw [ec, ← nthB_eq, ← waitF_eq, ← dropB_eq, ← appB_eq, ← takeB_eq]
  generalize cutAt ws (e.rest.take cut) = k
  cases h : ws[k]? with
  | none =>
    have : ws.drop k = [] := List.drop_of_length_le (List.getElem?_eq_none_iff.mp h)
    rw [this, if_neg (by simp)]
  | some y =>
    obtain ⟨hk, rfl⟩ := List.getElem?_eq_some_iff.mp h
    show _ = bi _ _ (eqB ws[k] (e.rest.take cut))
    rw [List.drop_eq_getElem_cons hk, ← eqB_eq]
    by_cases hy : ws[k] = e.rest.take cut
    · rw [if_pos (by rw [List.take_succ_cons, List.take_zero, hy]), decide_eq_true hy]
    · rw [if_neg (by rw [List.take_succ_cons, List.take_zero]; exact fun c => hy (List.cons.inj c).1), decide_eq_false hy]
noncomputable def cutsF (ws : List (List Nat)) (e : QI) (n : Nat) : Nat → List QI → List QI :=
  Nat.rec (motive := fun _ => Nat → List QI → List QI) (fun _ q => q) (fun _ ih cut q => ih (Nat.succ cut) (cutF ws e cut q)) n
theorem cutsF_eq (ws : List (List Nat)) (e : QI) : ∀ (n cut : Nat) (q : List QI), (List.range' cut n).foldl (inC ws e) q = cutsF ws e n cut q := by
  intro n
  induction n with
  | zero => intro _ _; rfl
  | succ n ih =>
    intro cut q
    rw [List.range'_succ, List.foldl_cons, cutF_eq]
    exact ih (cut + 1) _
noncomputable def stepF (ws : List (List Nat)) (e : QI) (q : List QI) : List QI :=
  cutsF ws e (lenB e.rest - 1) 1 (goF (fun m b q => bi q (waitF q ⟨e.size + lenB b - lenB e.rest, dropB b (lenB e.rest), e.ahead, appB e.behind [256 + m]⟩) (prB e.rest b)) ws 0 q)
theorem stepF_eq (ws : List (List Nat)) (e : QI) (q : List QI) : stepL ws e q = stepF ws e q := by
  unfold stepL stepF
  rw [cutsF_eq, lenB_eq]
  congr 1
  refine begun_go ws e.rest (fun m b q hm => ?_) q
  have hb : wd ws m = b := by unfold wd; rw [List.getD_eq_getElem?_getD, hm]; rfl
  unfold inB qB
  rw [hb, ← waitF_eq, ← lenB_eq, ← lenB_eq, ← dropB_eq, ← appB_eq]
noncomputable def shortF (ws : List (List Nat)) (f : Nat) : List QI → List (List Nat) → Option QI :=
  Nat.rec (motive := fun _ => List QI → List (List Nat) → Option QI) (fun _ _ => none) (fun _ ih q seen =>
    List.rec (motive := fun _ => Option QI) (some ⟨0, [], [], []⟩) (fun e q _ => bi (bi (ih (stepF ws e q) (appB seen [e.rest])) (ih q seen) (memB e.rest seen)) (some e) (nilB e.rest)) q) f
theorem shortF_eq (ws : List (List Nat)) : ∀ (f : Nat) (q : List QI) (seen : List (List Nat)), shortL ws f q seen = shortF ws f q seen := by
  intro f
  induction f with
  | zero => intro _ _; rfl
  | succ f ih =>
    intro q seen
    cases q with
    | nil => rfl
    | cons e q =>
    show _ = bi (bi (shortF ws f (stepF ws e q) (appB seen [e.rest])) (shortF ws f q seen) (memB e.rest seen)) (some e) (nilB e.rest)
    rw [shortL, ← ih, ← ih, ← stepF_eq, ← appB_eq, ← memB_eq, ← nilB_eq]
    by_cases h1 : e.rest = []
    · rw [if_pos h1, decide_eq_true h1]
    · rw [if_neg h1, decide_eq_false h1]
      by_cases h2 : e.rest ∈ seen
      · rw [if_pos h2, decide_eq_true h2]
      · rw [if_neg h2, decide_eq_false h2]

/- the readers once more, each word one number (its order kept), for the kernel -/
noncomputable def encW (a : List Nat) : Nat := List.rec (motive := fun _ => Nat → Nat) (fun _ => 0) (fun x _ ih k => Nat.add (Nat.mul (Nat.sub x 101) k) (ih (Nat.div k 8))) a 32768
noncomputable def tlN (a : Nat) : Nat := Nat.mul (Nat.mod a 32768) 8
noncomputable def hdN (a : Nat) : Nat := Nat.div a 32768
noncomputable def keyN (low high : Nat) : Nat := Nat.add (Nat.mul low 262144) high
noncomputable abbrev PN := Nat × Nat
noncomputable def memN (x : Nat) (l : List Nat) : Bool := List.rec (motive := fun _ => Bool) false (fun y _ ih => Bool.rec (motive := fun _ => Bool) ih true (Nat.beq x y)) l
noncomputable def crossN (high : Nat) (ws : List Nat) : List PN := List.rec (motive := fun _ => List PN) [] (fun w _ ih => (w, high) :: ih) ws
noncomputable def meetN (ws : List Nat) (low high : Nat) (seen : List Nat) (after : List PN) (go : List Nat → List PN → Option (List Nat × List PN)) : Option (List Nat × List PN) :=
  Bool.rec (motive := fun _ => Option (List Nat × List PN)) (Bool.rec (motive := fun _ => Option (List Nat × List PN)) (go (Nat.add (Nat.mul low 262144) high :: seen) (appB after (Bool.rec (motive := fun _ => List PN) [(low, high)] (crossN high ws) (Nat.beq low 0)))) (go seen after) (memN (Nat.add (Nat.mul low 262144) high) seen)) none (Nat.beq high 0)
noncomputable def lvlN (ws : List Nat) (l : List PN) : List Nat → List PN → Option (List Nat × List PN) :=
  List.rec (motive := fun _ => List Nat → List PN → Option (List Nat × List PN)) (fun seen after => some (seen, after)) (fun p _ ih seen after =>
    Bool.rec (motive := fun _ => Option (List Nat × List PN)) (ih seen after)
      (Bool.rec (motive := fun _ => Option (List Nat × List PN)) (meetN ws (tlN p.2) (tlN p.1) seen after ih) (meetN ws (tlN p.1) (tlN p.2) seen after ih) (Nat.ble (Nat.succ (tlN p.1)) (tlN p.2)))
      (Nat.beq (hdN p.1) (hdN p.2))) l
noncomputable def readN (ws : List Nat) (f : Nat) : List PN → List Nat → Nat → Option Nat :=
  Nat.rec (motive := fun _ => List PN → List Nat → Nat → Option Nat) (fun _ _ _ => none) (fun _ ih level seen size =>
    Bool.rec (motive := fun _ => Option Nat) (Option.rec (motive := fun _ => Option Nat) (bi none (some (Nat.succ size)) (Nat.ble (lenB seen) 390)) (fun sa => ih sa.2 sa.1 (Nat.succ size)) (lvlN ws level seen [])) (bi none (some 0) (Nat.ble (lenB seen) 390)) (nilB level)) f
noncomputable def rowN (a : Nat) (ws : List Nat) (t : List PN) : List PN := List.rec (motive := fun _ => List PN) t (fun b _ ih => bi ih ((a, b) :: ih) (Nat.ble (Nat.succ a) b)) ws
noncomputable def pairsN (ws : List Nat) : List PN := List.rec (motive := fun _ => List PN) [] (fun a _ ih => rowN a ws ih) ws
noncomputable def encB (c : List (List Nat)) : List Nat := List.rec (motive := fun _ => List Nat) [] (fun a _ ih => encW a :: ih) c
theorem encB_eq (c : List (List Nat)) : encB c = c.map encW := by
  induction c with
  | nil => rfl
  | cons a r ih => exact congrArg (encW a :: ·) ih

noncomputable def SUF : List (List Nat) := [[], [102], [102, 102], [102, 102, 102], [102, 102, 102, 102], [102, 102, 102, 102, 105], [102, 102, 102, 105], [102, 102, 105], [102, 102, 105, 102], [102, 102, 105, 102, 102], [102, 102, 105, 102, 102, 105], [102, 102, 105, 102, 105], [102, 102, 105, 105], [102, 105], [102, 105, 102], [102, 105, 102, 102], [102, 105, 102, 102, 105], [102, 105, 102, 105], [102, 105, 105], [105], [105, 102], [105, 102, 102], [105, 102, 102, 105], [105, 102, 105], [105, 105]]
theorem suf_one : ∀ a ∈ SUF, tailB a ∈ SUF ∧ encW (tailB a) = tlN (encW a) ∧ nilB a = Nat.beq (encW a) 0 ∧ encW a < 262144 ∧ 46 ∉ a := by decide +kernel
theorem suf_two : ∀ a ∈ SUF, ∀ b ∈ SUF, Nat.beq (headB a) (headB b) = Nat.beq (hdN (encW a)) (hdN (encW b)) ∧ ltB a b = Nat.ble (Nat.succ (encW a)) (encW b) ∧ (encW a = encW b → a = b) := by decide +kernel

noncomputable def okP (l : List PR) : Prop := ∀ p ∈ l, p.1 ∈ SUF ∧ p.2 ∈ SUF
noncomputable def eP (p : PR) : PN := (encW p.1, encW p.2)
noncomputable def kB (p : PR) : List Nat := keyB p.1 p.2
noncomputable def kN (p : PR) : Nat := keyN (encW p.1) (encW p.2)
theorem okP_nil : okP [] := fun p h => by cases h
theorem okP_cons {p : PR} {l : List PR} (h1 : p.1 ∈ SUF ∧ p.2 ∈ SUF) (h : okP l) : okP (p :: l) := fun q hq => by
  rcases List.mem_cons.mp hq with rfl | hq
  · exact h1
  · exact h q hq
theorem okP_app {a b : List PR} (h1 : okP a) (h2 : okP b) : okP (a ++ b) := fun q hq => (List.mem_append.mp hq).elim (h1 q) (h2 q)
theorem at_dot : ∀ {a a' b b' : List Nat}, 46 ∉ a → 46 ∉ a' → a ++ 46 :: b = a' ++ 46 :: b' → a = a' ∧ b = b' := by
  intro a
  induction a with
  | nil =>
    intro a' b b' _ h' e
    cases a' with
    | nil => exact ⟨rfl, (List.cons.inj e).2⟩
    | cons x r => exact absurd ((List.cons.inj e).1 ▸ List.Mem.head _) h'
  | cons x r ih =>
    intro a' b b' h h' e
    cases a' with
    | nil => exact absurd ((List.cons.inj e).1 ▸ List.Mem.head _) h
    | cons y t =>
      obtain ⟨e1, e2⟩ := List.cons.inj e
      obtain ⟨e3, e4⟩ := ih (fun c => h (.tail _ c)) (fun c => h' (.tail _ c)) e2
      exact ⟨by rw [e1, e3], e4⟩
theorem key_sim {p q : PR} (hp : p.1 ∈ SUF ∧ p.2 ∈ SUF) (hq : q.1 ∈ SUF ∧ q.2 ∈ SUF) : eqB (kB p) (kB q) = Nat.beq (kN p) (kN q) := by
  obtain ⟨_, _, _, l1, d1⟩ := suf_one _ hp.1
  obtain ⟨_, _, _, l2, _⟩ := suf_one _ hp.2
  obtain ⟨_, _, _, l3, d3⟩ := suf_one _ hq.1
  obtain ⟨_, _, _, l4, _⟩ := suf_one _ hq.2
  rw [← eqB_eq, Bool.eq_iff_iff, decide_eq_true_eq, Nat.beq_eq]
  constructor
  · intro e
    unfold kB keyB at e
    rw [← appB_eq, ← appB_eq] at e
    obtain ⟨e1, e2⟩ := at_dot d1 d3 e
    unfold kN; rw [e1, e2]
  · intro e
    have e : encW p.1 * 262144 + encW p.2 = encW q.1 * 262144 + encW q.2 := e
    have e1 : encW p.1 = encW q.1 ∧ encW p.2 = encW q.2 := by
      clear d1 d3 hp hq
      generalize encW p.1 = a at *; generalize encW p.2 = b at *; generalize encW q.1 = c at *; generalize encW q.2 = d at *
      omega
    unfold kB
    rw [(suf_two _ hp.1 _ hq.1).2.2 e1.1, (suf_two _ hp.2 _ hq.2).2.2 e1.2]
theorem mem_any {α : Type} (x : List Nat) (y : Nat) (f : α → List Nat) (g : α → Nat) : ∀ sp : List α, (∀ q ∈ sp, eqB x (f q) = Nat.beq y (g q)) → memB x (sp.map f) = memN y (sp.map g) := by
  intro sp
  induction sp with
  | nil => intro _; rfl
  | cons q r ih =>
    intro h
    show bi (memB x (r.map f)) true (eqB x (f q)) = bi (memN y (r.map g)) true (Nat.beq y (g q))
    rw [ih fun x hx => h x (.tail _ hx), h q (.head _)]
theorem mem_sim {p : PR} (hp : p.1 ∈ SUF ∧ p.2 ∈ SUF) (sp : List PR) (h : okP sp) : memB (kB p) (sp.map kB) = memN (kN p) (sp.map kN) :=
  mem_any (kB p) (kN p) kB kN sp fun q hq => key_sim hp (h q hq)
inductive Sim (a s : Nat) : Option (List (List Nat) × List PR) → Option (List Nat × List PN) → Prop
  | none : Sim a s none none
  | some (sp after : List PR) : okP sp → okP after → s ≤ sp.length → after.length + 5 * s ≤ a + 5 * sp.length → Sim a s (some (sp.map kB, after)) (some (sp.map kN, after.map eP))
theorem Sim.mono {a s a' s' : Nat} {o o'} (h : Sim a' s' o o') (h1 : s ≤ s') (h2 : a' + 5 * s ≤ a + 5 * s') : Sim a s o o' := by
  cases h with
  | none => exact .none
  | some sp after h3 h4 h5 h6 => exact .some sp after h3 h4 (Nat.le_trans h1 h5) (by clear h3 h4; omega)
theorem cross_sim {high : List Nat} (hh : high ∈ SUF) : ∀ ws : List (List Nat), (∀ x ∈ ws, x ∈ SUF) → okP (crossF high ws) ∧ (crossF high ws).map eP = crossN (encW high) (ws.map encW) := by
  intro ws
  induction ws with
  | nil => intro _; exact ⟨okP_nil, rfl⟩
  | cons w r ih =>
    intro h
    obtain ⟨h1, h2⟩ := ih fun x hx => h x (.tail _ hx)
    exact ⟨okP_cons (p := (w, high)) ⟨h w (.head _), hh⟩ h1, congrArg ((encW w, encW high) :: ·) h2⟩
theorem meet_sim {ws : List (List Nat)} (hw : ∀ x ∈ ws, x ∈ SUF) {low high : List Nat} (hl : low ∈ SUF) (hh : high ∈ SUF) {sp after : List PR} (hs : okP sp) (ha : okP after)
    {go : List (List Nat) → List PR → Option (List (List Nat) × List PR)} {go' : List Nat → List PN → Option (List Nat × List PN)} (hwl : ws.length ≤ 5) (hgo : ∀ sp after, okP sp → okP after → Sim after.length sp.length (go (sp.map kB) after) (go' (sp.map kN) (after.map eP))) :
    Sim after.length sp.length (meetF ws low high (sp.map kB) after go) (meetN (ws.map encW) (encW low) (encW high) (sp.map kN) (after.map eP) go') := by
  unfold meetF meetN
  rw [← (suf_one _ hh).2.2.1, ← (suf_one _ hl).2.2.1, show memN (Nat.add (Nat.mul (encW low) 262144) (encW high)) (sp.map kN) = memB (keyB low high) (sp.map kB) from (mem_sim (p := (low, high)) ⟨hl, hh⟩ sp hs).symm]
  cases nilB high with
  | true => exact .none
  | false =>
    show Sim _ _ (bi _ _ _) (bi _ _ _)
    cases memB (keyB low high) (sp.map kB) with
    | true => exact hgo sp after hs ha
    | false =>
      obtain ⟨c1, c2⟩ := cross_sim hh ws hw
      rw [← c2]
      have key : ∀ X : List PR, okP X → X.length ≤ 5 → Sim after.length sp.length (go (keyB low high :: sp.map kB) (appB after X)) (go' (Nat.add (Nat.mul (encW low) 262144) (encW high) :: sp.map kN) (appB (after.map eP) (X.map eP))) := fun X hX hXl => by
        rw [← appB_eq, ← appB_eq, ← List.map_append]
        refine (hgo ((low, high) :: sp) (after ++ X) (okP_cons ⟨hl, hh⟩ hs) (okP_app ha hX)).mono (Nat.le_succ _) ?_
        rw [List.length_append, List.length_cons]; clear hgo; omega
      have hcl : (crossF high ws).length ≤ 5 := by rw [← crossF_eq, List.length_map]; exact hwl
      cases nilB low with
      | true => exact key _ c1 hcl
      | false => exact key [(low, high)] (okP_cons ⟨hl, hh⟩ okP_nil) (Nat.le_add_left 1 4)
theorem lvl_sim {ws : List (List Nat)} (hw : ∀ x ∈ ws, x ∈ SUF) (hwl : ws.length ≤ 5) : ∀ l : List PR, okP l → ∀ sp after, okP sp → okP after → Sim after.length sp.length (lvlF ws l (sp.map kB) after) (lvlN (ws.map encW) (l.map eP) (sp.map kN) (after.map eP)) := by
  intro l
  induction l with
  | nil => intro _ sp after hs ha; exact .some sp after hs ha (Nat.le_refl _) (Nat.le_refl _)
  | cons p r ih =>
    intro hl sp after hs ha
    obtain ⟨a, b⟩ := p
    obtain ⟨h1, h2⟩ := hl _ (.head _)
    replace ih := ih fun x hx => hl x (.tail _ hx)
    obtain ⟨t1, t1', _⟩ := suf_one _ h1
    obtain ⟨t2, t2', _⟩ := suf_one _ h2
    show Sim _ _ (bi (lvlF ws r (sp.map kB) after) (bi (meetF ws (tailB b) (tailB a) (sp.map kB) after (lvlF ws r)) (meetF ws (tailB a) (tailB b) (sp.map kB) after (lvlF ws r)) (ltB (tailB a) (tailB b))) (Nat.beq (headB a) (headB b)))
      (bi (lvlN (ws.map encW) (r.map eP) (sp.map kN) (after.map eP)) (bi (meetN (ws.map encW) (tlN (encW b)) (tlN (encW a)) (sp.map kN) (after.map eP) (lvlN (ws.map encW) (r.map eP))) (meetN (ws.map encW) (tlN (encW a)) (tlN (encW b)) (sp.map kN) (after.map eP) (lvlN (ws.map encW) (r.map eP))) (Nat.ble (Nat.succ (tlN (encW a))) (tlN (encW b)))) (Nat.beq (hdN (encW a)) (hdN (encW b))))
    rw [← (suf_two _ h1 _ h2).1, ← t1', ← t2', ← (suf_two _ t1 _ t2).2.1]
    cases Nat.beq (headB a) (headB b) with
    | false => exact ih sp after hs ha
    | true =>
      show Sim _ _ (bi _ _ _) (bi _ _ _)
      cases ltB (tailB a) (tailB b) with
      | false => exact meet_sim hw t2 t1 hs ha hwl ih
      | true => exact meet_sim hw t1 t2 hs ha hwl ih
theorem lenB_map {α β : Type} (f : α → β) (l : List α) : lenB (l.map f) = l.length := by rw [← lenB_eq, List.length_map]
theorem some_of {n : Nat} {o : Option Nat} {c : Bool} (h : bi none o c = some n) : c = true ∧ o = some n := by
  cases c with
  | false => exact absurd h (by intro q; cases q)
  | true => exact ⟨rfl, h⟩
theorem read_sim {ws : List (List Nat)} (hw : ∀ x ∈ ws, x ∈ SUF) (hwl : ws.length ≤ 5) (n : Nat) : ∀ (f : Nat) (level sp : List PR) (size : Nat), okP level → okP sp → readN (ws.map encW) f (level.map eP) (sp.map kN) size = some n →
    readF ws f level (sp.map kB) size = some n ∧ sp.length ≤ 390 := by
  intro f
  induction f with
  | zero => intro _ _ _ _ _ h; cases h
  | succ f ih =>
    intro level sp size hl hs h
    have h : bi (Option.rec (motive := fun _ => Option Nat) (bi none (some (Nat.succ size)) (Nat.ble (lenB (sp.map kN)) 390)) (fun sa => readN (ws.map encW) f sa.2 sa.1 (Nat.succ size)) (lvlN (ws.map encW) (level.map eP) (sp.map kN) [])) (bi none (some 0) (Nat.ble (lenB (sp.map kN)) 390)) (nilB (level.map eP)) = some n := h
    show bi (Option.rec (motive := fun _ => Option Nat) (some (Nat.succ size)) (fun sa => bi none (bi none (readF ws f sa.2 sa.1 (Nat.succ size)) (Nat.ble (Nat.succ (lenB sa.2)) 2000)) (Nat.ble (Nat.succ (lenB sa.1)) 2000)) (lvlF ws level (sp.map kB) [])) (some 0) (nilB level) = some n ∧ _
    rw [lenB_map] at h
    cases level with
    | nil => obtain ⟨h1, h2⟩ := some_of h; exact ⟨h2, Nat.le_of_ble_eq_true h1⟩
    | cons p r =>
      have S : Sim 0 sp.length (lvlF ws (p :: r) (sp.map kB) []) (lvlN (ws.map encW) ((p :: r).map eP) (sp.map kN) []) := lvl_sim hw hwl (p :: r) hl sp [] hs okP_nil
      generalize lvlF ws (p :: r) (sp.map kB) [] = o at S ⊢
      generalize lvlN (ws.map encW) ((p :: r).map eP) (sp.map kN) [] = o' at S h
      cases S with
      | none => obtain ⟨h1, h2⟩ := some_of h; exact ⟨h2, Nat.le_of_ble_eq_true h1⟩
      | some sp' after' hs' ha' l1 l2 =>
        obtain ⟨h1, h2⟩ := ih after' sp' _ ha' hs' h
        refine ⟨?_, Nat.le_trans l1 h2⟩
        show bi none (bi none (readF ws f after' (sp'.map kB) (Nat.succ size)) (Nat.ble (Nat.succ (lenB after')) 2000)) (Nat.ble (Nat.succ (lenB (sp'.map kB))) 2000) = some n
        rw [h1, lenB_map, ← lenB_eq, Nat.ble_eq_true_of_le (show Nat.succ after'.length ≤ 2000 by clear h h1; omega), Nat.ble_eq_true_of_le (show Nat.succ sp'.length ≤ 2000 by clear h h1; omega)]
theorem row_sim {a : List Nat} (h : a ∈ SUF) {t : List PR} (ht : okP t) : ∀ ws : List (List Nat), (∀ x ∈ ws, x ∈ SUF) → okP (rowF a ws t) ∧ (rowF a ws t).map eP = rowN (encW a) (ws.map encW) (t.map eP) := by
  intro ws
  induction ws with
  | nil => intro _; exact ⟨ht, rfl⟩
  | cons b r ih =>
    intro hw
    obtain ⟨h1, h2⟩ := ih fun x hx => hw x (.tail _ hx)
    show okP (bi (rowF a r t) ((a, b) :: rowF a r t) (ltB a b)) ∧ (bi (rowF a r t) ((a, b) :: rowF a r t) (ltB a b)).map eP = bi (rowN (encW a) (r.map encW) (t.map eP)) ((encW a, encW b) :: rowN (encW a) (r.map encW) (t.map eP)) (Nat.ble (Nat.succ (encW a)) (encW b))
    rw [← (suf_two _ h _ (hw b (.head _))).2.1, ← h2]
    cases ltB a b with
    | false => exact ⟨h1, rfl⟩
    | true => exact ⟨okP_cons ⟨h, hw b (.head _)⟩ h1, rfl⟩
theorem pairs_sim (ws : List (List Nat)) (hw : ∀ x ∈ ws, x ∈ SUF) : okP (pairsF ws) ∧ (pairsF ws).map eP = pairsN (ws.map encW) := by
  have key : ∀ l : List (List Nat), (∀ x ∈ l, x ∈ SUF) → okP (List.rec (motive := fun _ => List PR) [] (fun a _ ih => rowF a ws ih) l) ∧
      (List.rec (motive := fun _ => List PR) [] (fun a _ ih => rowF a ws ih) l).map eP = List.rec (motive := fun _ => List PN) [] (fun a _ ih => rowN a (ws.map encW) ih) (l.map encW) := by
    intro l
    induction l with
    | nil => intro _; exact ⟨okP_nil, rfl⟩
    | cons a r ih =>
      intro h
      obtain ⟨h1, h2⟩ := ih fun x hx => h x (.tail _ hx)
      obtain ⟨h3, h4⟩ := row_sim (h a (.head _)) h1 ws hw
      exact ⟨h3, h4.trans (congrArg (rowN (encW a) (ws.map encW)) h2)⟩
  exact key ws hw
theorem readN_eq (c : List (List Nat)) (hc : ∀ x ∈ c, x ∈ SUF) (hl : c.length ≤ 5) (f n : Nat) (h : readN (encB c) f (pairsN (encB c)) [] 0 = some n) : readF c f (pairsF c) [] 0 = some n := by
  obtain ⟨h1, h2⟩ := pairs_sim c hc
  rw [encB_eq, ← h2] at h
  exact (read_sim hc hl n f (pairsF c) [] 0 h1 okP_nil h).1
end Mine

namespace Mine

noncomputable abbrev an (a b : Bool) : Bool := bi false b a
theorem an_eq {a b : Bool} (h : an a b = true) : a = true ∧ b = true := by cases a <;> cases b <;> first | exact ⟨rfl, rfl⟩ | cases h
theorem not_of {a : Bool} (h : bi true false a = true) : a = false := by cases a <;> first | rfl | cases h
theorem or_of {a b : Bool} (h : bi b true a = true) : a = true ∨ b = true := by cases a <;> first | exact .inl rfl | exact .inr h
theorem nor_of {a b : Bool} (h : bi b false a = true) : a = false ∧ b = true := by cases a <;> first | exact ⟨rfl, h⟩ | cases h
theorem allB_of {α : Type} {p : α → Bool} {l : List α} (h : allB p l = true) : ∀ x ∈ l, p x = true := by rw [← allB_eq] at h; exact List.all_eq_true.mp h

noncomputable def nthD (ws : List (List Nat)) (k : Nat) : List Nat := Option.rec (motive := fun _ => List Nat) [] (fun y => y) (nthB ws k)
noncomputable def expF (ws : List (List Nat)) (row : List Nat) : List Nat := List.rec (motive := fun _ => List Nat) [] (fun y _ ih => appB (nthD ws (y - 256)) ih) row
noncomputable def goodF (n : Nat) (row : List Nat) : Bool := allB (fun y => an (Nat.ble 256 y) (Nat.ble (Nat.succ (y - 256)) n)) row
noncomputable def kraftF (ws : List (List Nat)) : Nat := List.rec (motive := fun _ => Nat) 0 (fun w _ ih => 2 ^ (6 - lenB w) + ih) ws
noncomputable def kraft (ws : List (List Nat)) : Nat := (ws.map fun w => 2 ^ (6 - w.length)).sum
noncomputable def eqO (o : Option Nat) (n : Nat) : Bool := Option.rec (motive := fun _ => Bool) false (fun m => Nat.beq m n) o
noncomputable def partsOk (c ps : List (List Nat)) : Bool :=
  an (allB (fun x => madeF ps (lenB x) x) c) (allB (fun a => bi (allB (fun b => bi (bi true false (prB a b)) true (eqB a b)) ps) false (nilB a)) ps)
noncomputable def foundOk (c ps : List (List Nat)) (r : QI) : Bool :=
  an (bi true false (nilB r.behind)) (an (bi true false (nilB r.ahead)) (an (bi true false (Nat.beq (headB r.behind) (headB r.ahead))) (an (goodF (lenB c) r.behind) (an (goodF (lenB c) r.ahead)
    (an (eqB (expF c r.behind) (expF c r.ahead)) (an (Nat.beq (lenB (expF c r.behind)) r.size) (an (Nat.ble (Nat.succ (lenB ps)) (lenB c)) (an (Nat.ble (lenB r.behind) 100) (Nat.ble (lenB r.ahead) 100)))))))))
noncomputable def resOk (c ps : List (List Nat)) (r : QI) : Bool :=
  an (eqO (readN (encB c) 700 (pairsN (encB c)) [] 0) r.size) (bi (foundOk c ps r) (Nat.ble (kraftF c) 64) (Nat.beq r.size 0))
noncomputable def lawF (c : List (List Nat)) : Bool :=
  Option.rec (motive := fun _ => Bool) false (fun ps => an (partsOk c ps) (Option.rec (motive := fun _ => Bool) false (fun r => resOk c ps r) (shortF c 1000 (startF c) []))) (partsF 200 c 0)

noncomputable def Good (n : Nat) (row : List Nat) : Prop := ∀ y ∈ row, 256 ≤ y ∧ y - 256 < n
theorem goodF_of {n : Nat} {row : List Nat} (h : goodF n row = true) : Good n row := fun y hy => by
  obtain ⟨h1, h2⟩ := an_eq (allB_of h y hy)
  exact ⟨Nat.le_of_ble_eq_true h1, Nat.le_of_ble_eq_true h2⟩
theorem expF_eq (ws : List (List Nat)) : ∀ row : List Nat, Good ws.length row → expand ws row = expF ws row := by
  intro row
  induction row with
  | nil => intro _; rfl
  | cons y r ih =>
    intro h
    obtain ⟨h1, h2⟩ := h y (.head _)
    show expand ws (y :: r) = appB (nthD ws (y - 256)) (expF ws r)
    rw [← ih (fun z hz => h z (.tail _ hz)), ← appB_eq, expand_cons, letters, if_pos h1, nthD, ← nthB_eq, List.getD_eq_getElem?_getD]
    cases ws[y - 256]? <;> rfl
theorem kraftF_eq (ws : List (List Nat)) : kraft ws = kraftF ws := by
  unfold kraft
  induction ws with
  | nil => rfl
  | cons w r ih =>
    show _ = 2 ^ (6 - lenB w) + kraftF r
    rw [List.map_cons, List.sum_cons, ih, lenB_eq]

structure Facts (c ps : List (List Nat)) (r : QI) : Prop where
  parts : partsL 200 c 0 = some ps
  short : shortL c 1000 (startL c) [] = some r
  read : readL c 700 (pairs0 c) [] 0 = some r.size
  made : ∀ x ∈ c, madeOf ps x.length x = true
  ne : ∀ a ∈ ps, a ≠ []
  pre : ∀ a ∈ ps, ∀ b ∈ ps, a ≠ b → a.isPrefixOf b = false
  none : r.size = 0 → kraft c ≤ 64
  found : r.size ≠ 0 → r.behind ≠ [] ∧ r.ahead ≠ [] ∧ r.behind.headD 0 ≠ r.ahead.headD 0 ∧ Good c.length r.behind ∧ Good c.length r.ahead ∧ expand c r.behind = expand c r.ahead ∧ (expand c r.behind).length = r.size ∧ ps.length < c.length ∧ r.behind.length ≤ 100 ∧ r.ahead.length ≤ 100

theorem nil_not {α : Type} {l : List α} (h : nilB l = false) : l ≠ [] := fun q => by subst q; cases h
theorem facts_of {c : List (List Nat)} (hc : ∀ x ∈ c, x ∈ SUF) (hl : c.length ≤ 5) (h : lawF c = true) : ∃ ps r, Facts c ps r := by
  unfold lawF at h
  rw [← partsF_eq] at h
  cases hp : partsL 200 c 0 with
  | none => rw [hp] at h; cases h
  | some ps =>
    rw [hp] at h
    obtain ⟨h1, h2⟩ := an_eq h
    rw [← startF_eq, ← shortF_eq] at h2
    cases hs : shortL c 1000 (startL c) [] with
    | none => rw [hs] at h2; cases h2
    | some r =>
      rw [hs] at h2
      have h2' : resOk c ps r = true := h2
      obtain ⟨h3, h4⟩ := an_eq h2'
      obtain ⟨h5, h6⟩ := an_eq h1
      refine ⟨ps, r, ⟨hp, hs, ?_, fun x hx => ?_, fun a ha => ?_, fun a ha b hb hab => ?_, fun h0 => ?_, fun h0 => ?_⟩⟩
      · rw [readF_nil, pairsF_eq]
        refine readN_eq c hc hl 700 _ ?_
        cases hr : readN (encB c) 700 (pairsN (encB c)) [] 0 with
        | none => rw [hr] at h3; cases h3
        | some t =>
          rw [hr] at h3
          have : t = r.size := Nat.eq_of_beq_eq_true h3
          rw [this]
      · rw [madeF_eq, lenB_eq]; exact allB_of h5 x hx
      · exact nil_not (nor_of (allB_of h6 a ha)).1
      · have := allB_of (nor_of (allB_of h6 a ha)).2 b hb
        rcases or_of this with q | q
        · rw [← eqB_eq] at q; exact absurd (of_decide_eq_true q) hab
        · rw [prB_eq]; exact not_of q
      · rw [h0] at h4
        rw [kraftF_eq]
        exact Nat.le_of_ble_eq_true h4
      · have hb : Nat.beq r.size 0 = false := by
          cases q : Nat.beq r.size 0 with
          | false => rfl
          | true => exact absurd (Nat.eq_of_beq_eq_true q) h0
        rw [hb] at h4
        have h4' : foundOk c ps r = true := h4
        obtain ⟨a1, h4'⟩ := an_eq h4'
        obtain ⟨a2, h4'⟩ := an_eq h4'
        obtain ⟨a3, h4'⟩ := an_eq h4'
        obtain ⟨a4, h4'⟩ := an_eq h4'
        obtain ⟨a5, h4'⟩ := an_eq h4'
        obtain ⟨a6, h4'⟩ := an_eq h4'
        obtain ⟨a7, h4'⟩ := an_eq h4'
        obtain ⟨a8, h4'⟩ := an_eq h4'
        obtain ⟨a9, a10⟩ := an_eq h4'
        rw [← lenB_eq] at a4 a5
        have g1 := goodF_of a4
        have g2 := goodF_of a5
        rw [← expF_eq c _ g1, ← expF_eq c _ g2, ← eqB_eq] at a6
        rw [← expF_eq c _ g1, ← lenB_eq] at a7
        rw [← lenB_eq, ← lenB_eq] at a8
        rw [← lenB_eq] at a9 a10
        refine ⟨nil_not (not_of a1), nil_not (not_of a2), ?_, g1, g2, of_decide_eq_true a6, Nat.eq_of_beq_eq_true a7, Nat.le_of_ble_eq_true a8, Nat.le_of_ble_eq_true a9, Nat.le_of_ble_eq_true a10⟩
        have := not_of a3
        rw [headB_eq, headB_eq]
        intro q
        rw [q, Nat.beq_refl] at this
        cases this

noncomputable def W24 : List (List Nat) := [[102], [102, 102], [102, 102, 102], [102, 102, 102, 102], [102, 102, 102, 102, 105], [102, 102, 102, 105], [102, 102, 105], [102, 102, 105, 102], [102, 102, 105, 102, 102], [102, 102, 105, 102, 102, 105], [102, 102, 105, 102, 105], [102, 102, 105, 105], [102, 105], [102, 105, 102], [102, 105, 102, 102], [102, 105, 102, 102, 105], [102, 105, 102, 105], [102, 105, 105], [105], [105, 102], [105, 102, 102], [105, 102, 102, 105], [105, 102, 105], [105, 105]]
theorem W24_suf : ∀ x ∈ W24, x ∈ SUF := by decide +kernel
noncomputable def subs (p : List (List Nat) → Bool) (ws : List (List Nat)) : Nat → List (List Nat) → Bool :=
  List.rec (motive := fun _ => Nat → List (List Nat) → Bool) (fun _ acc => p acc) (fun w _ ih k acc => Nat.rec (motive := fun _ => Bool) (p acc) (fun k _ => an (ih k (appB acc [w])) (ih (Nat.succ k) acc)) k) ws
theorem subs_of {p : List (List Nat) → Bool} : ∀ (ws : List (List Nat)) (k : Nat) (acc c : List (List Nat)), subs p ws k acc = true → c.Sublist ws → c.length ≤ k → p (acc ++ c) = true := by
  intro ws
  induction ws with
  | nil =>
    intro k acc c h hc _
    have : c = [] := List.sublist_nil.mp hc
    subst this
    rw [List.append_nil]; exact h
  | cons w r ih =>
    intro k acc c h hc hk
    cases k with
    | zero =>
    have : c = [] := List.length_eq_zero_iff.mp (Nat.le_zero.mp hk)
    subst this
    rw [List.append_nil]; exact h
    | succ k =>
    obtain ⟨h1, h2⟩ := an_eq (show an (subs p r k (appB acc [w])) (subs p r (Nat.succ k) acc) = true from h)
    rw [← appB_eq] at h1
    cases hc with
    | cons _ hc => exact ih (k + 1) acc c h2 hc hk
    | cons_cons _ hc =>
      rename_i c'
      have := ih k (acc ++ [w]) c' h1 hc (Nat.le_of_succ_le_succ hk)
      rw [List.append_assoc] at this
      exact this
end Mine

set_option maxRecDepth 1000000
namespace Mine
noncomputable def tab (i j : Nat) : Bool := subs lawF (dropB W24 (Nat.succ j)) 2 [nthD W24 i, nthD W24 j]
theorem allB_app {α : Type} (p : α → Bool) : ∀ a b : List α, allB p a = true → allB p b = true → allB p (a ++ b) = true := by
  intro a b ha hb
  rw [← allB_eq] at ha hb ⊢
  rw [List.all_append, ha, hb]; rfl
theorem tab_0_0 : allB (tab 0) [1] = true := by decide +kernel
theorem tab_0_1 : allB (tab 0) [2] = true := by decide +kernel
theorem tab_0_2 : allB (tab 0) [3] = true := by decide +kernel
theorem tab_0_3 : allB (tab 0) [4] = true := by decide +kernel
theorem tab_0_4 : allB (tab 0) [5] = true := by decide +kernel
theorem tab_0_5 : allB (tab 0) [6] = true := by decide +kernel
theorem tab_0_6 : allB (tab 0) [7, 8] = true := by decide +kernel
theorem tab_0_7 : allB (tab 0) [9, 10] = true := by decide +kernel
theorem tab_0_8 : allB (tab 0) [11, 12, 13, 14] = true := by decide +kernel
theorem tab_0_9 : allB (tab 0) [15, 16, 17, 18, 19, 20, 21, 22, 23] = true := by decide +kernel
theorem row_0 : allB (tab 0) [1, 2, 3, 4, 5, 6, 7, 8, 9, 10, 11, 12, 13, 14, 15, 16, 17, 18, 19, 20, 21, 22, 23] = true := allB_app (tab 0) [1] [2, 3, 4, 5, 6, 7, 8, 9, 10, 11, 12, 13, 14, 15, 16, 17, 18, 19, 20, 21, 22, 23] tab_0_0 (allB_app (tab 0) [2] [3, 4, 5, 6, 7, 8, 9, 10, 11, 12, 13, 14, 15, 16, 17, 18, 19, 20, 21, 22, 23] tab_0_1 (allB_app (tab 0) [3] [4, 5, 6, 7, 8, 9, 10, 11, 12, 13, 14, 15, 16, 17, 18, 19, 20, 21, 22, 23] tab_0_2 (allB_app (tab 0) [4] [5, 6, 7, 8, 9, 10, 11, 12, 13, 14, 15, 16, 17, 18, 19, 20, 21, 22, 23] tab_0_3 (allB_app (tab 0) [5] [6, 7, 8, 9, 10, 11, 12, 13, 14, 15, 16, 17, 18, 19, 20, 21, 22, 23] tab_0_4 (allB_app (tab 0) [6] [7, 8, 9, 10, 11, 12, 13, 14, 15, 16, 17, 18, 19, 20, 21, 22, 23] tab_0_5 (allB_app (tab 0) [7, 8] [9, 10, 11, 12, 13, 14, 15, 16, 17, 18, 19, 20, 21, 22, 23] tab_0_6 (allB_app (tab 0) [9, 10] [11, 12, 13, 14, 15, 16, 17, 18, 19, 20, 21, 22, 23] tab_0_7 (allB_app (tab 0) [11, 12, 13, 14] [15, 16, 17, 18, 19, 20, 21, 22, 23] tab_0_8 (tab_0_9)))))))))
theorem tab_1_0 : allB (tab 1) [2] = true := by decide +kernel
theorem tab_1_1 : allB (tab 1) [3] = true := by decide +kernel
theorem tab_1_2 : allB (tab 1) [4] = true := by decide +kernel
theorem tab_1_3 : allB (tab 1) [5] = true := by decide +kernel
theorem tab_1_4 : allB (tab 1) [6] = true := by decide +kernel
theorem tab_1_5 : allB (tab 1) [7, 8] = true := by decide +kernel
theorem tab_1_6 : allB (tab 1) [9, 10] = true := by decide +kernel
theorem tab_1_7 : allB (tab 1) [11, 12, 13, 14] = true := by decide +kernel
theorem tab_1_8 : allB (tab 1) [15, 16, 17, 18, 19, 20, 21, 22, 23] = true := by decide +kernel
theorem row_1 : allB (tab 1) [2, 3, 4, 5, 6, 7, 8, 9, 10, 11, 12, 13, 14, 15, 16, 17, 18, 19, 20, 21, 22, 23] = true := allB_app (tab 1) [2] [3, 4, 5, 6, 7, 8, 9, 10, 11, 12, 13, 14, 15, 16, 17, 18, 19, 20, 21, 22, 23] tab_1_0 (allB_app (tab 1) [3] [4, 5, 6, 7, 8, 9, 10, 11, 12, 13, 14, 15, 16, 17, 18, 19, 20, 21, 22, 23] tab_1_1 (allB_app (tab 1) [4] [5, 6, 7, 8, 9, 10, 11, 12, 13, 14, 15, 16, 17, 18, 19, 20, 21, 22, 23] tab_1_2 (allB_app (tab 1) [5] [6, 7, 8, 9, 10, 11, 12, 13, 14, 15, 16, 17, 18, 19, 20, 21, 22, 23] tab_1_3 (allB_app (tab 1) [6] [7, 8, 9, 10, 11, 12, 13, 14, 15, 16, 17, 18, 19, 20, 21, 22, 23] tab_1_4 (allB_app (tab 1) [7, 8] [9, 10, 11, 12, 13, 14, 15, 16, 17, 18, 19, 20, 21, 22, 23] tab_1_5 (allB_app (tab 1) [9, 10] [11, 12, 13, 14, 15, 16, 17, 18, 19, 20, 21, 22, 23] tab_1_6 (allB_app (tab 1) [11, 12, 13, 14] [15, 16, 17, 18, 19, 20, 21, 22, 23] tab_1_7 (tab_1_8))))))))
theorem tab_2_0 : allB (tab 2) [3] = true := by decide +kernel
theorem tab_2_1 : allB (tab 2) [4] = true := by decide +kernel
theorem tab_2_2 : allB (tab 2) [5] = true := by decide +kernel
theorem tab_2_3 : allB (tab 2) [6] = true := by decide +kernel
theorem tab_2_4 : allB (tab 2) [7, 8] = true := by decide +kernel
theorem tab_2_5 : allB (tab 2) [9, 10] = true := by decide +kernel
theorem tab_2_6 : allB (tab 2) [11, 12, 13, 14] = true := by decide +kernel
theorem tab_2_7 : allB (tab 2) [15, 16, 17, 18, 19, 20, 21, 22, 23] = true := by decide +kernel
theorem row_2 : allB (tab 2) [3, 4, 5, 6, 7, 8, 9, 10, 11, 12, 13, 14, 15, 16, 17, 18, 19, 20, 21, 22, 23] = true := allB_app (tab 2) [3] [4, 5, 6, 7, 8, 9, 10, 11, 12, 13, 14, 15, 16, 17, 18, 19, 20, 21, 22, 23] tab_2_0 (allB_app (tab 2) [4] [5, 6, 7, 8, 9, 10, 11, 12, 13, 14, 15, 16, 17, 18, 19, 20, 21, 22, 23] tab_2_1 (allB_app (tab 2) [5] [6, 7, 8, 9, 10, 11, 12, 13, 14, 15, 16, 17, 18, 19, 20, 21, 22, 23] tab_2_2 (allB_app (tab 2) [6] [7, 8, 9, 10, 11, 12, 13, 14, 15, 16, 17, 18, 19, 20, 21, 22, 23] tab_2_3 (allB_app (tab 2) [7, 8] [9, 10, 11, 12, 13, 14, 15, 16, 17, 18, 19, 20, 21, 22, 23] tab_2_4 (allB_app (tab 2) [9, 10] [11, 12, 13, 14, 15, 16, 17, 18, 19, 20, 21, 22, 23] tab_2_5 (allB_app (tab 2) [11, 12, 13, 14] [15, 16, 17, 18, 19, 20, 21, 22, 23] tab_2_6 (tab_2_7)))))))
theorem tab_3_0 : allB (tab 3) [4] = true := by decide +kernel
theorem tab_3_1 : allB (tab 3) [5] = true := by decide +kernel
theorem tab_3_2 : allB (tab 3) [6] = true := by decide +kernel
theorem tab_3_3 : allB (tab 3) [7, 8] = true := by decide +kernel
theorem tab_3_4 : allB (tab 3) [9, 10] = true := by decide +kernel
theorem tab_3_5 : allB (tab 3) [11, 12, 13, 14] = true := by decide +kernel
theorem tab_3_6 : allB (tab 3) [15, 16, 17, 18, 19, 20, 21, 22, 23] = true := by decide +kernel
theorem row_3 : allB (tab 3) [4, 5, 6, 7, 8, 9, 10, 11, 12, 13, 14, 15, 16, 17, 18, 19, 20, 21, 22, 23] = true := allB_app (tab 3) [4] [5, 6, 7, 8, 9, 10, 11, 12, 13, 14, 15, 16, 17, 18, 19, 20, 21, 22, 23] tab_3_0 (allB_app (tab 3) [5] [6, 7, 8, 9, 10, 11, 12, 13, 14, 15, 16, 17, 18, 19, 20, 21, 22, 23] tab_3_1 (allB_app (tab 3) [6] [7, 8, 9, 10, 11, 12, 13, 14, 15, 16, 17, 18, 19, 20, 21, 22, 23] tab_3_2 (allB_app (tab 3) [7, 8] [9, 10, 11, 12, 13, 14, 15, 16, 17, 18, 19, 20, 21, 22, 23] tab_3_3 (allB_app (tab 3) [9, 10] [11, 12, 13, 14, 15, 16, 17, 18, 19, 20, 21, 22, 23] tab_3_4 (allB_app (tab 3) [11, 12, 13, 14] [15, 16, 17, 18, 19, 20, 21, 22, 23] tab_3_5 (tab_3_6))))))
theorem tab_4_0 : allB (tab 4) [5] = true := by decide +kernel
theorem tab_4_1 : allB (tab 4) [6] = true := by decide +kernel
theorem tab_4_2 : allB (tab 4) [7, 8] = true := by decide +kernel
theorem tab_4_3 : allB (tab 4) [9, 10] = true := by decide +kernel
theorem tab_4_4 : allB (tab 4) [11, 12, 13, 14] = true := by decide +kernel
theorem tab_4_5 : allB (tab 4) [15, 16, 17, 18, 19, 20, 21, 22, 23] = true := by decide +kernel
theorem row_4 : allB (tab 4) [5, 6, 7, 8, 9, 10, 11, 12, 13, 14, 15, 16, 17, 18, 19, 20, 21, 22, 23] = true := allB_app (tab 4) [5] [6, 7, 8, 9, 10, 11, 12, 13, 14, 15, 16, 17, 18, 19, 20, 21, 22, 23] tab_4_0 (allB_app (tab 4) [6] [7, 8, 9, 10, 11, 12, 13, 14, 15, 16, 17, 18, 19, 20, 21, 22, 23] tab_4_1 (allB_app (tab 4) [7, 8] [9, 10, 11, 12, 13, 14, 15, 16, 17, 18, 19, 20, 21, 22, 23] tab_4_2 (allB_app (tab 4) [9, 10] [11, 12, 13, 14, 15, 16, 17, 18, 19, 20, 21, 22, 23] tab_4_3 (allB_app (tab 4) [11, 12, 13, 14] [15, 16, 17, 18, 19, 20, 21, 22, 23] tab_4_4 (tab_4_5)))))
theorem tab_5_0 : allB (tab 5) [6] = true := by decide +kernel
theorem tab_5_1 : allB (tab 5) [7, 8] = true := by decide +kernel
theorem tab_5_2 : allB (tab 5) [9, 10] = true := by decide +kernel
theorem tab_5_3 : allB (tab 5) [11, 12, 13, 14] = true := by decide +kernel
theorem tab_5_4 : allB (tab 5) [15, 16, 17, 18, 19, 20, 21, 22, 23] = true := by decide +kernel
theorem row_5 : allB (tab 5) [6, 7, 8, 9, 10, 11, 12, 13, 14, 15, 16, 17, 18, 19, 20, 21, 22, 23] = true := allB_app (tab 5) [6] [7, 8, 9, 10, 11, 12, 13, 14, 15, 16, 17, 18, 19, 20, 21, 22, 23] tab_5_0 (allB_app (tab 5) [7, 8] [9, 10, 11, 12, 13, 14, 15, 16, 17, 18, 19, 20, 21, 22, 23] tab_5_1 (allB_app (tab 5) [9, 10] [11, 12, 13, 14, 15, 16, 17, 18, 19, 20, 21, 22, 23] tab_5_2 (allB_app (tab 5) [11, 12, 13, 14] [15, 16, 17, 18, 19, 20, 21, 22, 23] tab_5_3 (tab_5_4))))
theorem tab_6_0 : allB (tab 6) [7, 8] = true := by decide +kernel
theorem tab_6_1 : allB (tab 6) [9, 10] = true := by decide +kernel
theorem tab_6_2 : allB (tab 6) [11, 12, 13, 14] = true := by decide +kernel
theorem tab_6_3 : allB (tab 6) [15, 16, 17, 18, 19, 20, 21, 22, 23] = true := by decide +kernel
theorem row_6 : allB (tab 6) [7, 8, 9, 10, 11, 12, 13, 14, 15, 16, 17, 18, 19, 20, 21, 22, 23] = true := allB_app (tab 6) [7, 8] [9, 10, 11, 12, 13, 14, 15, 16, 17, 18, 19, 20, 21, 22, 23] tab_6_0 (allB_app (tab 6) [9, 10] [11, 12, 13, 14, 15, 16, 17, 18, 19, 20, 21, 22, 23] tab_6_1 (allB_app (tab 6) [11, 12, 13, 14] [15, 16, 17, 18, 19, 20, 21, 22, 23] tab_6_2 (tab_6_3)))
theorem tab_7_0 : allB (tab 7) [8, 9] = true := by decide +kernel
theorem tab_7_1 : allB (tab 7) [10, 11, 12] = true := by decide +kernel
theorem tab_7_2 : allB (tab 7) [13, 14, 15, 16, 17, 18, 19, 20, 21, 22, 23] = true := by decide +kernel
theorem row_7 : allB (tab 7) [8, 9, 10, 11, 12, 13, 14, 15, 16, 17, 18, 19, 20, 21, 22, 23] = true := allB_app (tab 7) [8, 9] [10, 11, 12, 13, 14, 15, 16, 17, 18, 19, 20, 21, 22, 23] tab_7_0 (allB_app (tab 7) [10, 11, 12] [13, 14, 15, 16, 17, 18, 19, 20, 21, 22, 23] tab_7_1 (tab_7_2))
theorem tab_8_0 : allB (tab 8) [9, 10] = true := by decide +kernel
theorem tab_8_1 : allB (tab 8) [11, 12, 13, 14] = true := by decide +kernel
theorem tab_8_2 : allB (tab 8) [15, 16, 17, 18, 19, 20, 21, 22, 23] = true := by decide +kernel
theorem row_8 : allB (tab 8) [9, 10, 11, 12, 13, 14, 15, 16, 17, 18, 19, 20, 21, 22, 23] = true := allB_app (tab 8) [9, 10] [11, 12, 13, 14, 15, 16, 17, 18, 19, 20, 21, 22, 23] tab_8_0 (allB_app (tab 8) [11, 12, 13, 14] [15, 16, 17, 18, 19, 20, 21, 22, 23] tab_8_1 (tab_8_2))
theorem tab_9_0 : allB (tab 9) [10, 11, 12] = true := by decide +kernel
theorem tab_9_1 : allB (tab 9) [13, 14, 15, 16, 17, 18, 19, 20, 21, 22, 23] = true := by decide +kernel
theorem row_9 : allB (tab 9) [10, 11, 12, 13, 14, 15, 16, 17, 18, 19, 20, 21, 22, 23] = true := allB_app (tab 9) [10, 11, 12] [13, 14, 15, 16, 17, 18, 19, 20, 21, 22, 23] tab_9_0 (tab_9_1)
theorem tab_10_0 : allB (tab 10) [11, 12, 13, 14] = true := by decide +kernel
theorem tab_10_1 : allB (tab 10) [15, 16, 17, 18, 19, 20, 21, 22, 23] = true := by decide +kernel
theorem row_10 : allB (tab 10) [11, 12, 13, 14, 15, 16, 17, 18, 19, 20, 21, 22, 23] = true := allB_app (tab 10) [11, 12, 13, 14] [15, 16, 17, 18, 19, 20, 21, 22, 23] tab_10_0 (tab_10_1)
theorem tab_11_0 : allB (tab 11) [12, 13, 14, 15, 16, 17] = true := by decide +kernel
theorem tab_11_1 : allB (tab 11) [18, 19, 20, 21, 22, 23] = true := by decide +kernel
theorem row_11 : allB (tab 11) [12, 13, 14, 15, 16, 17, 18, 19, 20, 21, 22, 23] = true := allB_app (tab 11) [12, 13, 14, 15, 16, 17] [18, 19, 20, 21, 22, 23] tab_11_0 (tab_11_1)
theorem tab_12_0 : allB (tab 12) [13, 14, 15, 16, 17, 18, 19, 20, 21, 22, 23] = true := by decide +kernel
theorem row_12 : allB (tab 12) [13, 14, 15, 16, 17, 18, 19, 20, 21, 22, 23] = true := tab_12_0
theorem tab_13_0 : allB (tab 13) [14, 15, 16, 17, 18, 19, 20, 21, 22, 23] = true := by decide +kernel
theorem row_13 : allB (tab 13) [14, 15, 16, 17, 18, 19, 20, 21, 22, 23] = true := tab_13_0
theorem tab_14_0 : allB (tab 14) [15, 16, 17, 18, 19, 20, 21, 22, 23] = true := by decide +kernel
theorem row_14 : allB (tab 14) [15, 16, 17, 18, 19, 20, 21, 22, 23] = true := tab_14_0
theorem tab_15_0 : allB (tab 15) [16, 17, 18, 19, 20, 21, 22, 23] = true := by decide +kernel
theorem row_15 : allB (tab 15) [16, 17, 18, 19, 20, 21, 22, 23] = true := tab_15_0
theorem tab_16_0 : allB (tab 16) [17, 18, 19, 20, 21, 22, 23] = true := by decide +kernel
theorem row_16 : allB (tab 16) [17, 18, 19, 20, 21, 22, 23] = true := tab_16_0
theorem tab_17_0 : allB (tab 17) [18, 19, 20, 21, 22, 23] = true := by decide +kernel
theorem row_17 : allB (tab 17) [18, 19, 20, 21, 22, 23] = true := tab_17_0
theorem tab_18_0 : allB (tab 18) [19, 20, 21, 22, 23] = true := by decide +kernel
theorem row_18 : allB (tab 18) [19, 20, 21, 22, 23] = true := tab_18_0
theorem tab_19_0 : allB (tab 19) [20, 21, 22, 23] = true := by decide +kernel
theorem row_19 : allB (tab 19) [20, 21, 22, 23] = true := tab_19_0
theorem tab_20_0 : allB (tab 20) [21, 22, 23] = true := by decide +kernel
theorem row_20 : allB (tab 20) [21, 22, 23] = true := tab_20_0
theorem tab_21_0 : allB (tab 21) [22, 23] = true := by decide +kernel
theorem row_21 : allB (tab 21) [22, 23] = true := tab_21_0
theorem tab_22_0 : allB (tab 22) [23] = true := by decide +kernel
theorem row_22 : allB (tab 22) [23] = true := tab_22_0
theorem ones : allB (fun i => lawF [nthD W24 i]) [0, 1, 2, 3, 4, 5, 6, 7, 8, 9, 10, 11, 12, 13, 14, 15, 16, 17, 18, 19, 20, 21, 22, 23] = true := by decide +kernel
theorem tab_ok (i j : Nat) (hij : i < j) (hj : j < 24) : tab i j = true := by
  match i, hij with
  | 0, h => exact allB_of row_0 j ((List.mem_range'_1 (s := 1) (n := 23)).mpr ⟨h, hj⟩)
  | 1, h => exact allB_of row_1 j ((List.mem_range'_1 (s := 2) (n := 22)).mpr ⟨h, hj⟩)
  | 2, h => exact allB_of row_2 j ((List.mem_range'_1 (s := 3) (n := 21)).mpr ⟨h, hj⟩)
  | 3, h => exact allB_of row_3 j ((List.mem_range'_1 (s := 4) (n := 20)).mpr ⟨h, hj⟩)
  | 4, h => exact allB_of row_4 j ((List.mem_range'_1 (s := 5) (n := 19)).mpr ⟨h, hj⟩)
  | 5, h => exact allB_of row_5 j ((List.mem_range'_1 (s := 6) (n := 18)).mpr ⟨h, hj⟩)
  | 6, h => exact allB_of row_6 j ((List.mem_range'_1 (s := 7) (n := 17)).mpr ⟨h, hj⟩)
  | 7, h => exact allB_of row_7 j ((List.mem_range'_1 (s := 8) (n := 16)).mpr ⟨h, hj⟩)
  | 8, h => exact allB_of row_8 j ((List.mem_range'_1 (s := 9) (n := 15)).mpr ⟨h, hj⟩)
  | 9, h => exact allB_of row_9 j ((List.mem_range'_1 (s := 10) (n := 14)).mpr ⟨h, hj⟩)
  | 10, h => exact allB_of row_10 j ((List.mem_range'_1 (s := 11) (n := 13)).mpr ⟨h, hj⟩)
  | 11, h => exact allB_of row_11 j ((List.mem_range'_1 (s := 12) (n := 12)).mpr ⟨h, hj⟩)
  | 12, h => exact allB_of row_12 j ((List.mem_range'_1 (s := 13) (n := 11)).mpr ⟨h, hj⟩)
  | 13, h => exact allB_of row_13 j ((List.mem_range'_1 (s := 14) (n := 10)).mpr ⟨h, hj⟩)
  | 14, h => exact allB_of row_14 j ((List.mem_range'_1 (s := 15) (n := 9)).mpr ⟨h, hj⟩)
  | 15, h => exact allB_of row_15 j ((List.mem_range'_1 (s := 16) (n := 8)).mpr ⟨h, hj⟩)
  | 16, h => exact allB_of row_16 j ((List.mem_range'_1 (s := 17) (n := 7)).mpr ⟨h, hj⟩)
  | 17, h => exact allB_of row_17 j ((List.mem_range'_1 (s := 18) (n := 6)).mpr ⟨h, hj⟩)
  | 18, h => exact allB_of row_18 j ((List.mem_range'_1 (s := 19) (n := 5)).mpr ⟨h, hj⟩)
  | 19, h => exact allB_of row_19 j ((List.mem_range'_1 (s := 20) (n := 4)).mpr ⟨h, hj⟩)
  | 20, h => exact allB_of row_20 j ((List.mem_range'_1 (s := 21) (n := 3)).mpr ⟨h, hj⟩)
  | 21, h => exact allB_of row_21 j ((List.mem_range'_1 (s := 22) (n := 2)).mpr ⟨h, hj⟩)
  | 22, h => exact allB_of row_22 j ((List.mem_range'_1 (s := 23) (n := 1)).mpr ⟨h, hj⟩)
  | i + 23, h => omega
theorem one_ok (i : Nat) (hi : i < 24) : lawF [nthD W24 i] = true := allB_of ones i ((List.mem_range'_1 (s := 0) (n := 24)).mpr ⟨Nat.zero_le i, hi⟩)
end Mine


namespace Mine

noncomputable def codeOf (ws : List (List Nat)) : List (List Nat) := ws.foldl (fun c w => putL w c) []
theorem codeOf_snoc (ws : List (List Nat)) (w : List Nat) : codeOf (ws ++ [w]) = putL w (codeOf ws) := by
  unfold codeOf; rw [List.foldl_append]; rfl

theorem foldl_put (ws : List (List Nat)) : ∀ c, Srt c → Srt (ws.foldl (fun c w => putL w c) c) ∧ (∀ x ∈ ws.foldl (fun c w => putL w c) c, x ∈ ws ∨ x ∈ c) ∧ (ws.foldl (fun c w => putL w c) c).length ≤ c.length + ws.length ∧ (ws ≠ [] ∨ c ≠ [] → ws.foldl (fun c w => putL w c) c ≠ []) := by
  induction ws with
  | nil => intro c hc; exact ⟨hc, fun x hx => .inr hx, Nat.le_refl _, fun h => by rcases h with h | h <;> first | exact absurd rfl h | exact h⟩
  | cons w r ih =>
    intro c hc
    obtain ⟨h1, h2, h3, h4⟩ := ih (putL w c) hc.putL
    refine ⟨h1, fun x hx => ?_, ?_, fun _ => h4 (.inr ?_)⟩
    · rcases h2 x hx with h | h
      · exact .inl (.tail _ h)
      · rcases mem_putL.mp h with rfl | h
        · exact .inl (.head _)
        · exact .inr h
    · have := length_putL_le c w
      simp only [List.foldl_cons, List.length_cons] at h3 ⊢
      omega
    · intro q
      have : w ∈ putL w c := mem_putL.mpr (.inl rfl)
      rw [q] at this; cases this
theorem codeOf_srt (ws : List (List Nat)) : Srt (codeOf ws) := (foldl_put ws [] .nil).1
theorem codeOf_mem (ws : List (List Nat)) : ∀ x ∈ codeOf ws, x ∈ ws := fun x hx => by
  rcases (foldl_put ws [] .nil).2.1 x hx with h | h
  · exact h
  · cases h
theorem codeOf_len (ws : List (List Nat)) : (codeOf ws).length ≤ ws.length := by
  have := (foldl_put ws [] .nil).2.2.1
  unfold codeOf
  simpa using this
theorem codeOf_ne (ws : List (List Nat)) (h : ws ≠ []) : codeOf ws ≠ [] := (foldl_put ws [] .nil).2.2.2 (.inl h)

theorem srt_sub : ∀ (W c : List (List Nat)), Srt W → Srt c → (∀ x ∈ c, x ∈ W) → c.Sublist W := by
  intro W
  induction W with
  | nil =>
    intro c _ _ h
    cases c with
    | nil => exact .slnil
    | cons x r => exact absurd (h x (.head _)) (by simp)
  | cons w W ih =>
    intro c hW hc h
    cases c with
    | nil => exact List.nil_sublist _
    | cons x r =>
    obtain ⟨w1, w2⟩ := List.pairwise_cons.mp hW
    obtain ⟨c1, c2⟩ := List.pairwise_cons.mp hc
    by_cases e : x = w
    · subst e
      refine .cons_cons _ (ih r w2 c2 fun y hy => ?_)
      rcases List.mem_cons.mp (h y (.tail _ hy)) with q | q
      · have := c1 y hy; rw [q] at this; exact absurd this (List.lt_irrefl _)
      · exact q
    · refine .cons _ (ih (x :: r) w2 hc fun y hy => ?_)
      have hxW : x ∈ W := by
        rcases List.mem_cons.mp (h x (.head _)) with q | q
        · exact absurd q e
        · exact q
      have hwx := w1 x hxW
      rcases List.mem_cons.mp (h y hy) with q | q
      · subst q
        rcases List.mem_cons.mp hy with q | q
        · exact absurd q.symm e
        · exact absurd (c1 y q) (lt_asymm' hwx)
      · exact q

theorem W24_srt : Srt W24 := by unfold Srt; decide +kernel
theorem words_in : ∀ a, a < 5 → ∀ b, b < 6 → pieceW.getD a [] ++ pieceW.getD b [] ∈ W24 := by decide +kernel
theorem wordOf_in (x : Nat) : wordOf x ∈ W24 := words_in (x % 5) (Nat.mod_lt _ (by decide)) (x / 5 % 6) (Nat.mod_lt _ (by decide))

theorem sub_first : ∀ (W : List (List Nat)) (a : List Nat) (c : List (List Nat)), (a :: c).Sublist W → ∃ i, W[i]? = some a ∧ c.Sublist (W.drop (i + 1)) := by
  intro W
  induction W with
  | nil => intro _ _ h; cases h
  | cons w W ih =>
    intro a c h
    cases h with
    | cons _ h =>
      obtain ⟨i, h1, h2⟩ := ih a c h
      exact ⟨i + 1, by simpa using h1, by simpa using h2⟩
    | cons_cons _ h => exact ⟨0, rfl, by simpa using h⟩
end Mine

namespace Mine
theorem nthD_of {W : List (List Nat)} {i : Nat} {a : List Nat} (h : W[i]? = some a) : nthD W i = a := by
  unfold nthD; rw [← nthB_eq, h]
theorem facts_code (ws : List (List Nat)) (h : ∀ x ∈ ws, x ∈ W24) (hl : ws.length ≤ 4) (hn : ws ≠ []) : ∃ ps r, Facts (codeOf ws) ps r := by
  have hs := srt_sub W24 (codeOf ws) W24_srt (codeOf_srt ws) fun x hx => h x (codeOf_mem ws x hx)
  have hlen := Nat.le_trans (codeOf_len ws) hl
  have hne := codeOf_ne ws hn
  have hc : ∀ x ∈ codeOf ws, x ∈ SUF := fun x hx => W24_suf x (h x (codeOf_mem ws x hx))
  revert hs hlen hne hc
  generalize codeOf ws = c
  intro hs hlen hne hc
  have h24 : W24.length = 24 := rfl
  match c, hne, hc with
  | [a], _, hc =>
    obtain ⟨i, h1, _⟩ := sub_first _ _ _ hs
    have := one_ok i (by rw [← h24]; exact (List.getElem?_eq_some_iff.mp h1).1)
    rw [nthD_of h1] at this
    exact facts_of hc (Nat.le_add_left 1 4) this
  | a :: b :: c', _, hc =>
    obtain ⟨i, h1, h2⟩ := sub_first _ _ _ hs
    obtain ⟨j, h3, h4⟩ := sub_first _ _ _ h2
    rw [List.getElem?_drop] at h3
    rw [List.drop_drop] at h4
    have hj : i + 1 + j < 24 := by rw [← h24]; exact (List.getElem?_eq_some_iff.mp h3).1
    have := tab_ok i (i + 1 + j) (by omega) hj
    unfold tab at this
    rw [nthD_of h1, nthD_of h3, ← dropB_eq] at this
    have e : i + 1 + (j + 1) = Nat.succ (i + 1 + j) := by omega
    rw [e] at h4
    exact facts_of hc (Nat.le_succ_of_le hlen) (subs_of _ 2 [a, b] c' this h4 (by simp at hlen; omega))
end Mine

namespace Mine
local macro_rules | `(tactic| walk_at "lk") => `(tactic| first | with_reducible assumption | exact upd_self | (refine (upd_ne (by decide)).trans ?_; walk_at "lk") | exact rfl)

section
variable {w : World} {A : Around} {E : Value → Shared → Prop} {s : Shared} {env : Env}
theorem isTrue_and2 {a b : Expr} {p : Pos} {wh : Sem Value} {Q : Bool → Shared → Prop}
    (h : wpAny (model P0 w) A (isTrue a env (eval a env)) (fun b1 s₁ => if b1 = true then wpAny (model P0 w) A (isTrue b env (eval b env)) (fun b2 s₂ => Q b2 s₂) E s₁ else Q false s₁) E s) :
    wpAny (model P0 w) A (isTrue (.BoolOp .And [a, b] p) env wh) Q E s := by
  show wpAny (model P0 w) A (isTrue a env (eval a env) >>= _) Q E s
  refine wpAny_bind (wpAny_mono h (fun b1 s₁ h₁ => ?_) fun _ _ e => e)
  cases b1 with
  | false => exact wpAny_pure h₁
  | true =>
    show wpAny (model P0 w) A (isTrue b env (eval b env) >>= _) Q E s₁
    refine wpAny_bind (wpAny_mono h₁ (fun b2 s₂ h₂ => ?_) fun _ _ e => e)
    cases b2 <;> exact wpAny_pure h₂

theorem unpack3 {x1 x2 x3 : Str} {p1 p2 p3 tp : Pos} {k : Nat} {T : Addr} {v1 v2 v3 : Value} {Q : Unit → Shared → Prop} (hh : A.handled = none) (hT : s.heap.get? T = some (tupOf #[v1, v2, v3]))
    (h : ∀ h', Grown s.heap h' → wpAny (model P0 w) A (storeName env x1 v1) (fun _ s₁ => wpAny (model P0 w) A (storeName env x2 v2) (fun _ s₂ => wpAny (model P0 w) A (storeName env x3 v3) Q E s₂) E s₁) E { s with heap := h' }) :
    wpAny (model P0 w) A (assign (.Tuple [.Name x1 p1, .Name x2 p2, .Name x3 p3] k tp) env (.ref T)) Q E s := by
  refine assign_Tuple_tuple hh ⟨_, hT, rfl, _, rfl⟩ rfl rfl fun h' e' => ?_
  refine assignInOrder_cons (wpAny_assign_Name (wpAny_mono (h h' (grown_ext e')) (fun _ s₁ h₁ => assignInOrder_cons (wpAny_assign_Name (wpAny_mono h₁ (fun _ s₂ h₂ => assignInOrder_cons (wpAny_assign_Name (wpAny_mono h₂ (fun _ s₃ h₃ =>
    assignInOrder_nil h₃) fun _ _ e => e))) fun _ _ e => e))) fun _ _ e => e))
end

noncomputable abbrev envL (L a c : Addr) : Env := envOfC "law" (sco 27) L a (.ref c)
noncomputable def cmpLeft : Stmt → Expr
  | .If (.Compare l _ _ _) _ _ _ => l
  | _ => .Constant .none 0 default
theorem ne_S (x y : List Nat) : ((S x).cps.toList != (S y).cps.toList) = !decide (x = y) := by
  show (x != y) = _
  by_cases h : x = y <;> simp [h]

set_option maxHeartbeats 4000000 in
theorem pre_comp {w : World} {A : Around} {E : Value → Shared → Prop} {s : Shared} {L a c l : Addr} {ps : List WT} {Q : Value → Shared → Prop} (hh : A.handled = none)
    (hc : s.heap.IsCell (L + 1) (some (.ref l))) (hl : s.heap.IsList l (ps.map sv).toArray)
    (hpre : ∀ p ∈ ps, ∀ q ∈ ps, p.1 ≠ q.1 → p.1.isPrefixOf q.1 = false)
    (h : ∀ h' tk D k, Grown s.heap h' → s.heap.get? D = none → h'.get? D = some (listOf ([] : List Value).toArray k) → Q (.ref D) { s with heap := h', toks := tk }) :
    wpAny (model P0 w) A (eval (cmpLeft (nthS (body 27) 6)) (envL L a c)) Q E s := by
  refine comp2_eval (comp_enter (cl := [("parts", L + 1)]) rfl ?_)
  refine ldC hc (iter_list hl fun h₁ I o k₁ n₁ o₁ hO => ?_)
  refine ⟨I, _, _, _, _, o, rfl, Iter.list hh I l (ps.map sv).toArray, o₁, hO, fun C D h₂ tk₂ m₂ hDI F N => ?_⟩
  have hfr : ∀ b o, s.heap.get? b = some o → (h₁.hide I).get? b = some o := fun b o e => by
    rw [Heap.hide_ne _ (fun q => by rw [q] at e; rw [e] at n₁; cases n₁)]
    exact k₁ _ _ e
  have hc0 : (h₁.hide I).IsCell (L + 1) (some (.ref l)) := hc.keeps hfr
  have hl0 : (h₁.hide I).IsList l (ps.map sv).toArray := listK hl (hfr)
  refine comp_more rfl rfl rfl (fun _ => rfl) (Iter.list hh I l (ps.map sv).toArray) (fun h k => listK hl0 (k))
    (fun i B' _ acc => acc = []) F N hDI (fun p hp => noMem hp) hO rfl ?_ ?_
  · rintro i v B' h' tk' m' acc' k o' hi hv g' F' N' rfl
    have hi' : i < ps.length := by simpa using hi
    have hv' : v = sv ps[i] := by simpa [hi'] using hv.symm
    subst hv'
    refine wpAny_assign_Name (stE F' N' fun h₃ tk₃ F₃ N₃ => wpAny_tests_nil ?_)
    rw [if_pos rfl]
    refine ldC ((hc0.keeps g').keeps F₃.keep) (iter_list (listK hl0 (fun _ _ x => F₃.keep _ _ (g' _ _ x))) fun h₄ I₁ o₄ k₄ n₄ oI₄ hO₄ => ?_)
    have F₄ := F₃.grow k₄
    have N₄ := News.join F₃ N₃ k₄ n₄ oI₄
    have out4 := (fresh_out F₃ N₃ n₄).2
    have W₁ := Iter.list (w := w) hh I₁ l (ps.map sv).toArray
    refine (fun hl => compStart_at rfl hl (W₁.self 0 _ o₄ _ _ oI₄ hO₄ hl)) ?_
    refine comp_last (d := 1) rfl rfl W₁ (fun h k => listK hl0 (fun _ _ x => k _ _ (g' _ _ x)))
      (fun j B'' m'' acc => acc = [] ∧ m'' "a" = some (sv ps[i]))
      (led := [(I, o')]) (acc := []) (kD := k) F₄ (News.sub N₄ fun p hp => ?_) ?_ ?_ ?_ hO₄ ⟨rfl, upd_self⟩ ?_ ?_ ?_
    · simp only [List.mem_cons, List.not_mem_nil, or_false] at hp ⊢
      rcases hp with h | h | h
      · exact .inl h
      · exact .inr (.inr h)
      · exact .inr (.inl h)
    · exact out4 (D, listOf ([] : List Value).toArray k) (.tail _ (.head _))
    · intro p hp; simp only [List.mem_singleton] at hp; subst hp; exact out4 (I, o') (.head _)
    · intro p hp; simp only [List.mem_singleton] at hp; subst hp; exact hDI.symm
    · rintro j B'' m'' acc ⟨rfl, _⟩; simp
    · rintro j v B'' h₅ tk₅ m₅ acc₅ k₅ o₅ hj hv₅ g₅ F₅ N₅ ⟨rfl, ma₅⟩
      have hj' : j < ps.length := by simpa using hj
      have hv' : v = sv ps[j] := by simpa [hj'] using hv₅.symm
      subst hv'
      refine wpAny_assign_Name (stE F₅ N₅ fun h₆ tk₆ F₆ N₆ => wpAny_tests_one ?_)
      refine isTrue_and2 (wpAny_isTrue_Compare1 (ldE F₆ ((upd_ne (by decide)).trans ma₅) (ldE F₆ upd_self (P.ne_str (wpAny_truthy_bool ?_)))))
      rw [ne_S]
      by_cases he : ps[i].1 = ps[j].1
      · rw [if_neg (by simpa using he), if_neg Bool.false_ne_true]
        exact ⟨B'', h₆, _, _, rfl, fun _ _ e => e, F₆, N₆, rfl, (upd_ne (by decide)).trans ma₅⟩
      · rw [if_pos (by simpa using he)]
        refine isTrue_plain (Call_method1 rfl rfl rfl (ldE F₆ upd_self (SB.startswith (ldE F₆ ((upd_ne (by decide)).trans ma₅) ⟨_, _, rfl, wpAny_truthy_bool ?_⟩))))
        rw [starts_eq, hpre _ (List.getElem_mem hi') _ (List.getElem_mem hj') he, if_neg Bool.false_ne_true]
        exact ⟨B'', h₆, _, _, rfl, fun _ _ e => e, F₆, N₆, rfl, (upd_ne (by decide)).trans ma₅⟩
    · rintro B'' h₅ tk₅ m₅ acc₅ k₅ g₅ F₅ N₅ ⟨rfl, _⟩
      refine ⟨⟨_, rfl⟩, B'', h₅, tk₅, m₅, [], k₅, rfl, g₅, F₅, News.sub N₅ fun p hp => ?_, rfl⟩
      simp only [List.mem_cons, List.not_mem_nil, or_false] at hp ⊢
      exact hp.symm
  · rintro B' h' tk' m' acc' k g' F' N' rfl
    refine ⟨m', F'.ns, fun h'' s'' => ?_⟩
    have hD := N' _ (.head _)
    have oD := (s''.2 D hD.2.1).trans hD.1
    have gB'' : Grown B' h'' := fun b o e => (s''.2 b (fun q => by rw [q, F'.free] at e; cases e)).trans (F'.keep b o e)
    have gs : Grown s.heap h'' := fun b o e => gB'' b o (g' b o (hfr b o e))
    refine h h'' tk' D k gs ?_ oD
    cases e : s.heap.get? D with
    | none => rfl
    | some o =>
      have := hfr _ _ e
      rw [(N _ (.tail _ (.head _))).2.2] at this; cases this

set_option maxHeartbeats 4000000 in
theorem made_comp {w : World} {A : Around} {E : Value → Shared → Prop} {s : Shared} {L a c l lp : Addr} {m : Str → Option Value} {B : Heap} {led : List (Addr × Obj)} {ad : Nat → Addr} {mg mb : Str → Option Value} {ps qs : List WT} {Q : Value → Shared → Prop} (R : Rm A 3) (G : Gnd ad mg mb B)
    (F : Loc B L s.heap m) (mc : m "code" = some (.ref l)) (hl : s.heap.IsList l (ps.map sv).toArray) (hc : s.heap.IsCell (L + 1) (some (.ref lp))) (hp : s.heap.IsList lp (qs.map sv).toArray)
    (hq : Srt (qs.map (·.1))) (hqn : qs.length < 1000000) (hqe : ∀ p ∈ qs, p.1 ≠ []) (hpl : ∀ p ∈ ps, p.1.length < 1000000) (hmade : ∀ p ∈ ps, madeOf (qs.map (·.1)) p.1.length p.1 = true)
    (h : ∀ h' tk D k, Grown s.heap h' → s.heap.get? D = none → h'.get? D = some (listOf ([] : List Value).toArray k) → Q (.ref D) { s with heap := h', toks := tk }) :
    wpAny (model P0 w) A (eval (cmpLeft (nthS (body 27) 7)) (envL L a c)) Q E s := by
  obtain ⟨eM, hfM⟩ := G.fnOf 26 "_law_made_of" (by decide)
  refine comp1_eval (comp1 (cl := [("parts", L + 1)]) rfl ?_)
  refine ldE F mc (iter_list hl fun h₁ I o k₁ n₁ o₁ hO => ?_)
  have hfr : Grown s.heap (h₁.hide I) := fun b o e => by
    rw [Heap.hide_ne _ (fun q => by rw [q] at e; rw [e] at n₁; cases n₁)]
    exact k₁ _ _ e
  have hl0 : (h₁.hide I).IsList l (ps.map sv).toArray := listK hl (hfr)
  refine ⟨I, _, _, _, _, o, fun i B' acc => acc = [], rfl, Iter.list R.handled I l (ps.map sv).toArray, fun h k => listK hl0 (k), o₁, hO, rfl, fun i B' acc q => by subst q; simp, ?_, ?_⟩
  · rintro i v C D B' h' tk' m' acc' k o' hi' hv g' F' N' rfl
    have hi'' : i < ps.length := by simpa using hi'
    have hv' : v = sv ps[i] := by simpa [hi''] using hv.symm
    subst hv'
    have gB : Grown B B' := fun b o e => g' _ _ (hfr _ _ (F.keep _ _ e))
    refine wpAny_assign_Name (stE F' N' fun h₃ tk₃ F₃ N₃ => wpAny_tests_one ?_)
    refine isTrue_not' (isTrue_val (Call_Name rfl (ldgE F₃ (G.keeps gB) eM (callFn (hfM.keeps gB) (spliced_cons (ldC ((hc.keeps hfr).keeps (Grown.trans g' F₃.keep)) (spliced_cons (ldE F₃ upd_self (spliced_nil (wpAny_evalAll_nil ⟨F₃.keep, ?_⟩))))))))) rfl)
    have hp₃ : h₃.IsList lp (qs.map sv).toArray := listK hp (fun _ _ x => F₃.keep _ _ (g' _ _ (hfr _ _ x)))
    refine made_call ((G.keeps gB).keeps F₃.keep) R hp₃ hqn hq hqe (hpl _ (List.getElem_mem hi'')) fun h₄ tk₄ k₄ => wpAny_truthy_bool ?_
    rw [hmade _ (List.getElem_mem hi'')]
    rw [if_neg (by decide)]
    exact ⟨B', h₄, _, _, rfl, fun _ _ e => e, F₃.grow k₄, News.grow' N₃ k₄, rfl⟩
  · rintro B' C h' tk' m' D acc' k g' F' N' rfl
    refine ⟨m', F'.ns, fun h'' s'' => ?_⟩
    have hD := N' _ (.head _)
    have oD := (s''.2 D hD.2.1).trans hD.1
    have gB'' : Grown B' h'' := fun b o e => (s''.2 b (fun q => by rw [q, F'.free] at e; cases e)).trans (F'.keep b o e)
    have gs : Grown s.heap h'' := fun b o e => gB'' b o (g' b o (hfr b o e))
    refine h h'' tk' D k gs ?_ oD
    cases e : s.heap.get? D with
    | none => rfl
    | some o => rw [g' _ _ (hfr _ _ e)] at hD; cases hD.2.2
end Mine

namespace Mine
local macro_rules | `(tactic| walk_at "lk") => `(tactic| first | with_reducible assumption | exact upd_self | (refine (upd_ne (by decide)).trans ?_; walk_at "lk") | exact rfl)

noncomputable def retVal : Stmt → Expr
  | .Return (some e) _ => e
  | _ => .Constant .none 0 default
noncomputable def firstOf : Expr → Expr
  | .BoolOp _ (e :: _) _ => e
  | e => e
noncomputable def leftOf : Expr → Expr
  | .Compare l _ _ _ => l
  | e => e
noncomputable def argE : Expr → Expr
  | .Call _ (a :: _) _ _ => a
  | e => e
noncomputable def krE : Expr := argE (leftOf (firstOf (retVal (nthS (ifBody (nthS (body 27) 9)) 0))))

theorem pow_share (x : List Nat) (h : x.length ≤ 6) : ((2 : Int) ^ ((6 : Int) - ((x.length : Nat) : Int)).toNat) = ((2 ^ (6 - x.length) : Nat) : Int) := by
  have : ((6 : Int) - ((x.length : Nat) : Int)).toNat = 6 - x.length := by omega
  rw [this]
  simp

set_option maxHeartbeats 4000000 in
theorem kraft_comp {w : World} {A : Around} {E : Value → Shared → Prop} {s : Shared} {L a c l : Addr} {m : Str → Option Value} {B : Heap} {ad : Nat → Addr} {mg mb : Str → Option Value} {ps : List WT} {Q : Value → Shared → Prop} (hh : A.handled = none) (G : Gnd ad mg mb B)
    (F : Loc B L s.heap m) (mc : m "code" = some (.ref l)) (hl : s.heap.IsList l (ps.map sv).toArray) (hn : ps.length ≤ 10) (hpl : ∀ p ∈ ps, p.1.length ≤ 6)
    (h : ∀ h' tk D us k, Grown s.heap h' → s.heap.get? D = none → h'.get? D = some (listOf (List.map iv us).toArray k) → us.map (·.1) = (ps.map (·.1)).map (fun x => ((2 ^ (6 - x.length) : Nat) : Int)) → Q (.ref D) { s with heap := h', toks := tk }) :
    wpAny (model P0 w) A (eval krE (envL L a c)) Q E s := by
  refine comp1_eval (comp1 (cl := []) rfl ?_)
  refine ldE F mc (iter_list hl fun h₁ I o k₁ n₁ o₁ hO => ?_)
  have hfr : Grown s.heap (h₁.hide I) := fun b o e => by
    rw [Heap.hide_ne _ (fun q => by rw [q] at e; rw [e] at n₁; cases n₁)]
    exact k₁ _ _ e
  have hl0 : (h₁.hide I).IsList l (ps.map sv).toArray := listK hl (hfr)
  refine ⟨I, _, _, _, _, o, fun i B' acc => ∃ us : List IT, acc = us.map iv ∧ us.map (·.1) = ((ps.map (·.1)).map (fun x => ((2 ^ (6 - x.length) : Nat) : Int))).take i ∧ i ≤ 10, rfl, Iter.list hh I l (ps.map sv).toArray, fun h k => listK hl0 (k), o₁, hO, ⟨[], rfl, rfl, by omega⟩, ?_, ?_, ?_⟩
  · rintro i B' acc ⟨us, rfl, hu, hi⟩
    have := congrArg List.length hu
    rw [List.length_map, List.length_take] at this
    rw [List.length_map]; omega
  · rintro i v C D B' h' tk' m' acc' k o' hi' hv g' F' N' ⟨us, rfl, hu, _⟩
    have hi'' : i < ps.length := by simpa using hi'
    have hv' : v = sv ps[i] := by simpa [hi''] using hv.symm
    subst hv'
    have gB : Grown B B' := fun b o e => g' _ _ (hfr _ _ (F.keep _ _ e))
    have hln := hpl _ (List.getElem_mem hi'')
    refine wpAny_assign_Name (stE F' N' fun h₃ tk₃ F₃ N₃ => wpAny_tests_nil ?_)
    rw [if_pos rfl]
    refine wpAny_BinOp (wpAny_Constant_int (wpAny_BinOp (wpAny_Constant_int (Call_Name1 (ldbE (by exact F₃) (G.keeps gB) boot_len (callWith_builtin1 (ldE (by exact F₃) upd_self (SBL.len (by rw [slen]; omega) ?_))))))))
    rw [slen]
    refine PyProof.Rows.sub_int (pow_int_small (by omega) (by omega) (by decide) ?_)
    rw [pow_share _ hln]
    refine ⟨B', h₃, _, _, rfl, fun _ _ e => e, F₃, N₃, us ++ [(((2 ^ (6 - ps[i].1.length) : Nat) : Int), _)], by rw [List.map_append]; rfl, ?_, by omega⟩
    have e : ((ps.map (·.1)).map (fun x => ((2 ^ (6 - x.length) : Nat) : Int)))[i]? = some ((2 ^ (6 - ps[i].1.length) : Nat) : Int) := by simp [hi'']
    rw [List.map_append, hu, List.take_add_one, e]
    rfl
  · rintro B' C h' tk' m' D acc' k g' F' N' ⟨us, rfl, hu, _⟩
    refine ⟨m', F'.ns, fun h'' s'' => ?_⟩
    have hD := N' _ (.head _)
    have oD := (s''.2 D hD.2.1).trans hD.1
    have gB'' : Grown B' h'' := fun b o e => (s''.2 b (fun q => by rw [q, F'.free] at e; cases e)).trans (F'.keep b o e)
    have gs : Grown s.heap h'' := fun b o e => gB'' b o (g' b o (hfr b o e))
    refine h h'' tk' D us k gs ?_ oD ?_
    · cases e : s.heap.get? D with
      | none => rfl
      | some o => rw [g' _ _ (hfr _ _ e)] at hD; cases hD.2.2
    · rw [hu, List.take_of_length_le (by simp)]
theorem sum_ints {w : World} {A : Around} {E : Value → Shared → Prop} {s : Shared} {l : Addr} {us : List IT} {Q : Value → Shared → Prop} (hh : A.handled = none) (hl : s.heap.IsList l (us.map iv).toArray)
    (h : ∀ h' tk t, Grown s.heap h' → Q (.int ((us.map (·.1)).sum) t) { s with heap := h', toks := tk }) : wpAny (model P0 w) A (call (.builtin "sum") [.ref l]) Q E s := by
  have e : (us.map iv).toArray = intItems us.toArray := by
    unfold intItems; simp
  rw [e] at hl
  refine sum_intListG hh hl fun h' tk t' hk => ?_
  have := h h' tk t' hk
  rw [preSum_eq, List.take_of_length_le (by simp)]
  exact this
end Mine

namespace Mine
local macro_rules | `(tactic| walk_at "lk") => `(tactic| first | with_reducible assumption | exact upd_self | (refine (upd_ne (by decide)).trans ?_; walk_at "lk") | exact rfl)

theorem Rm.mono {A : Around} {k j : Nat} (R : Rm A k) (h : j ≤ k) : Rm A j := ⟨by have := R.depth; omega, by have := R.units; omega, R.handled⟩
theorem ledT_nd {P1 P2 C : Addr} {o1 o2 o3 : Obj} (h1 : C ≠ P1) (h2 : C ≠ P2) (h3 : P1 ≠ P2) : (([(C, o3), (P1, o1), (P2, o2)] : List (Addr × Obj)).map (·.1)).Nodup := by
  simp [h1, h2, h3]

section
variable {w : World} {A : Around} {s : Shared} {L a c P1 P2 : Addr} {m : Str → Option Value} {B : Heap} {ad : Nat → Addr} {mg mb : Str → Option Value} {oC : Obj} {t1 t2 : Array Value}
noncomputable abbrev ledT (C P1 P2 : Addr) (oC : Obj) (t1 t2 : Array Value) : List (Addr × Obj) := [(C, oC), (P1, tabObj t1), (P2, tabObj t2)]

set_option maxHeartbeats 4000000 in
theorem law_one {l : Addr} {rs : List IT} {Q : Flow → Shared → Prop} (R : Rm A 6) (G : Gnd ad mg mb B) (F : Loc B L s.heap m) (N : News B L s.heap (ledT (L + 1) P1 P2 oC t1 t2)) (ms : m "script" = some (.ref l)) (hl : s.heap.IsList l (rs.map iv).toArray) (hz : rs.length < 1000)
    (h : ∀ B' h' tk m' cd qs n, Grown B B' → Loc B' L h' m' → News B' L h' (ledT (L + 1) P1 P2 oC t1 t2) → B'.get? cd = some (listOf (List.map sv qs).toArray n) → qs.map (·.1) = codeOf ((drawnL (rs.map (·.1))).map wordOf) → m' "code" = some (.ref cd) →
      wpAny (model P0 w) A (execs ((body 27).drop 5) (envL L a c)) Q NoE { s with heap := h', toks := tk }) :
    wpAny (model P0 w) A (execs (body 27) (envL L a c)) Q NoE s := by
  obtain ⟨e17, hf17⟩ := G.fnOf 17 "_law_book" (by decide)
  obtain ⟨e18, hf18⟩ := G.fnOf 18 "_law_words" (by decide)
  obtain ⟨e19, hf19⟩ := G.fnOf 19 "_law_put" (by decide)
  have hdl : (drawnL (rs.map (·.1))).length = 4 := by unfold drawnL; simp; omega
  refine wpAny_execs_cons ?_
  refine Assign_Tuple (Call_Name1 (ldgE F G e17 (callFn hf17 (spliced_cons (ldE F ms (spliced_nil (wpAny_evalAll_nil ⟨F.keep, ?_⟩)))))))
  refine book_call (G.keeps F.keep) (R.mono (by omega)) hl hz fun h₂ tk₂ T td tb ps n k₂ ntd oT otd eps => ?_
  generalize hXs : drawnL (rs.map (·.1)) = xs at *
  have F₂ := F.grow k₂
  have N₂ := News.join F N k₂ ntd otd
  have out2 := fresh_out F N ntd
  refine unpack2 R.handled oT fun h₃ k₃ => ?_
  have F₃ := F₂.grow k₃
  have N₃ := News.grow' N₂ k₃
  refine stE F₃ N₃ fun h₄ _ F₄ N₄ => stE F₄ N₄ fun h₅ tk₅ F₅ N₅ => ?_
  dsimp only at F₅ N₅ ⊢
  obtain ⟨B₆, g₆, F₆, N₆, hin₆⟩ := rebase F₅ N₅.tail'
  have otd₆ : B₆.get? td = some (listOf (List.map sv ps).toArray n) := hin₆ _ _ (N₅.get (.head _)) out2.1 out2.2
  have G₆ := G.keeps g₆
  refine wpAny_execs_cons ?_
  refine wpAny_Assign_Name (Call_Name1 (ldgE F₆ G₆ e18 (callFn (hf18.keeps g₆) (spliced_cons (ldE F₆ (by walk_at "lk") (spliced_nil (wpAny_evalAll_nil ⟨F₆.keep, ?_⟩)))))))
  refine words_call (G₆.keeps F₆.keep) (R.mono (by omega)) (book_ok xs) (by rw [book_len]; omega) fun h₇ tk₇ r ws n₇ k₇ nr or ews => ?_
  rw [words_book] at ews
  have F₇ := F₆.grow k₇
  have N₇ := News.join F₆ N₆ k₇ nr or
  have out7 := fresh_out F₆ N₆ nr
  refine stE F₇ N₇ fun h₈ tk₈ F₈ N₈ => ?_
  dsimp only at F₈ N₈ ⊢
  obtain ⟨B₉, g₉, F₉, N₉, hin₉⟩ := rebase F₈ N₈.tail'
  have or₉ : B₉.get? r = some (listOf (List.map sv ws).toArray n₇) := hin₉ _ _ (N₈.get (.head _)) out7.1 out7.2
  have otd₉ := g₉ _ _ otd₆
  have G₉ := G₆.keeps g₉
  have hcp : ∀ x ∈ xs.map wordOf, Cp x := fun x hx c hc => by
    obtain ⟨y, _, rfl⟩ := List.mem_map.mp hx
    have : ∀ x ∈ W24, ∀ c ∈ x, c < 0x110000 := by decide
    exact this _ (wordOf_in y) c hc
  refine wpAny_execs_cons ?_
  refine wpAny_If (wpAny_isTrue_Compare1 (ldE F₉ (by walk_at "lk") (ldE F₉ (by walk_at "lk") ?_)))
  refine ne_strs (ps := ws) (qs := ps) ⟨_, F₉.keep _ _ or₉, rfl, _, rfl⟩ ⟨_, F₉.keep _ _ otd₉, rfl, _, rfl⟩ (mem_sv ews hcp) (mem_sv eps hcp) R.u (wpAny_truthy_bool ?_)
  rw [ews, eps, if_neg (by simp)]
  refine wpAny_execs_nil ?_
  refine wpAny_execs_cons ?_
  refine wpAny_Assign_Name (list_disp (spliced_nil ⟨by simp, fun h₁₀ cd k₁₀ n₁₀ o₁₀ => ?_⟩))
  have F₁₀ := F₉.grow k₁₀
  have N₁₀ := News.join F₉ N₉ k₁₀ n₁₀ o₁₀
  have out10 := fresh_out F₉ N₉ n₁₀
  refine stE F₁₀ N₁₀ fun h₁₁ tk₁₁ F₁₁ N₁₁ => ?_
  dsimp only at F₁₁ N₁₁ ⊢
  refine wpAny_execs_cons ?_
  refine wpAny_For (ldE F₁₁ (by walk_at "lk") (iter_list (l := r) (items := (List.map sv ws).toArray) ⟨_, F₁₁.keep _ _ or₉, rfl, _, rfl⟩ fun h₁₂ I oI k₁₂ n₁₂ o₁₂ hO => ?_))
  have F₁₂ := F₁₁.grow k₁₂
  have N₁₂ := News.join F₁₁ N₁₁ k₁₂ n₁₂ o₁₂
  have out12 := (fresh_out F₁₁ N₁₁ n₁₂).2
  have hwl : ws.length = xs.length := by have := congrArg List.length ews; simpa using this
  refine for_it (Iter.list R.handled I r _) (fun h k => ⟨_, k _ _ or₉, rfl, _, rfl⟩)
    (fun i B' m' led' => ∃ qs n, led' = (cd, listOf (List.map sv qs).toArray n) :: ledT (L + 1) P1 P2 oC t1 t2 ∧ qs.map (·.1) = codeOf ((xs.map wordOf).take i) ∧ m' "code" = some (.ref cd))
    F₁₂ N₁₂ out12 hO ⟨[], 0, rfl, rfl, by walk_at "lk"⟩ ?_ ?_ ?_
  · rintro i v B' h₁₃ tk₁₃ m₁₃ led₁₃ o₁₃ hi hv g₁₃ F₁₃ N₁₃ hnd ⟨qs, nq, rfl, eq, mc⟩
    have hi' : i < ws.length := by simpa using hi
    have hv' : v = sv ws[i] := by simpa [hi'] using hv.symm
    subst hv'
    have hix : i < xs.length := by omega
    have hwi : ws[i].1 = wordOf xs[i] := by
      have : (ws.map (·.1))[i]? = (xs.map wordOf)[i]? := by rw [ews]
      simpa [hi', hix] using this
    have hqm : ∀ x ∈ qs.map (·.1), x ∈ xs.map wordOf := fun x hx => by
      rw [eq] at hx
      exact List.mem_of_mem_take (codeOf_mem _ x hx)
    refine wpAny_assign_Name (stE F₁₃ N₁₃ fun h₁₄ tk₁₄ F₁₄ N₁₄ => ?_)
    dsimp only at F₁₄ N₁₄ ⊢
    have hC := N₁₄ _ (.tail _ (.head _))
    have gB : Grown B B' := Grown.trans g₆ (Grown.trans g₉ g₁₃)
    refine wpAny_execs_cons ?_
    refine wpAny_Expr_any (Call_Name rfl (ldgE F₁₄ (G.keeps gB) e19 (callFn (hf19.keeps gB) (spliced_cons (ldE F₁₄ (by walk_at "lk") (spliced_cons (ldE F₁₄ upd_self (spliced_nil (wpAny_evalAll_nil ⟨F₁₄.keep, ?_⟩)))))))))
    have hql : qs.length ≤ 4 := by
      have h1 := congrArg List.length eq
      have h2 := codeOf_len ((xs.map wordOf).take i)
      rw [List.length_map] at h1
      rw [List.length_take, List.length_map] at h2
      omega
    refine put_call (G.keeps gB) F₁₄.keep hC.2.2 (R.mono (by omega)) hC.1 (by omega) (by rw [eq]; exact codeOf_srt _) (mem_sv rfl fun x hx => hcp x (hqm x hx)) (by rw [hwi]; exact hcp _ (List.mem_map_of_mem (List.getElem_mem hix))) fun h₁₅ tk₁₅ qs' n' x₁₅ o₁₅ e₁₅ _ => wpAny_execs_nil ?_
    have hnd1 : cd ≠ I := hnd _ (.head _)
    refine ⟨B', h₁₅, tk₁₅, _, _, rfl, fun _ _ e => e, F₁₄.but x₁₅ hC.2.1 hC.2.2, ?_, ?_, qs', n', rfl, ?_, by walk_at "lk"⟩
    · intro p hp
      rcases List.mem_cons.mp hp with rfl | hp
      · exact ⟨x₁₅ _ _ hnd1.symm (N₁₄ _ (.head _)).1, (N₁₄ _ (.head _)).2⟩
      rcases List.mem_cons.mp hp with rfl | hp
      · exact ⟨o₁₅, hC.2⟩
      · have := N₁₄ p (.tail _ (.tail _ hp))
        exact ⟨x₁₅ _ _ (out10.2 p hp) this.1, this.2⟩
    · intro p hp
      rcases List.mem_cons.mp hp with rfl | hp
      · exact hnd1
      · exact hnd p (.tail _ hp)
    · rw [e₁₅, eq, List.take_add_one, hwi]
      have : (xs.map wordOf)[i]? = some (wordOf xs[i]) := by simp [hix]
      rw [this]
      exact (codeOf_snoc _ _).symm
  · rintro B' h₁₃ tk₁₃ m₁₃ led₁₃ g₁₃ F₁₃ N₁₃ ⟨qs, nq, rfl, eq, mc⟩
    rw [List.take_of_length_le (by simp; omega)] at eq
    obtain ⟨B₁₄, g₁₄, F₁₄, N₁₄, hin₁₄⟩ := rebase F₁₃ N₁₃.tail'
    have hC := N₁₃ _ (.head _)
    refine h B₁₄ h₁₃ tk₁₃ m₁₃ cd qs nq (Grown.trans g₆ (Grown.trans g₉ (Grown.trans g₁₃ g₁₄))) F₁₄ N₁₄ (hin₁₄ _ _ hC.1 hC.2.1 out10.2) eq mc
  · intro i s' v Q' E' o' ho hO' hP hi hq
    exact wpAny_of_eq rfl hq
end
end Mine

namespace Mine
local macro_rules | `(tactic| walk_at "lk") => `(tactic| first | with_reducible assumption | exact upd_self | (refine (upd_ne (by decide)).trans ?_; walk_at "lk") | exact rfl)

structure CodeOk (c : List (List Nat)) : Prop where
  srt : Srt c
  mem : ∀ x ∈ c, x ∈ W24
  len : c.length ≤ 4
theorem w24_len : ∀ x ∈ W24, x ≠ [] ∧ x.length ≤ 6 ∧ ∀ d ∈ x, 0 < d ∧ d < 256 := by decide
theorem CodeOk.code {c : List (List Nat)} (K : CodeOk c) {B : Heap} {l : Addr} {ps : List WT} (e : ps.map (·.1) = c) {n : Nat} (o : B.get? l = some (listOf (List.map sv ps).toArray n)) : CodeIs B l ps := by
  have hl : ps.length = c.length := by rw [← e]; simp
  have hm : ∀ p ∈ ps, p.1 ∈ W24 := fun p hp => K.mem _ (by rw [← e]; exact List.mem_map_of_mem hp)
  refine ⟨⟨_, o, rfl, _, rfl⟩, by have := K.len; omega, fun p hp => by have := (w24_len _ (hm p hp)).2.1; omega, by rw [e]; exact K.srt, fun p hp d hd => by have := ((w24_len _ (hm p hp)).2.2 d hd).2; omega⟩
theorem partsL_inv {n : Nat} : ∀ {ws : List (List Nat)} {k : Nat} {res : List (List Nat)}, Srt ws → partsL n ws k = some res → Srt res ∧ res.length ≤ ws.length := by
  induction n with
  | zero => intro ws k res _ h; cases h
  | succ n ih =>
    intro ws k res hs h
    unfold partsL at h
    cases ha : ws[k]? with
    | none => rw [ha] at h; cases h; exact ⟨hs, Nat.le_refl _⟩
    | some a =>
      cases hb : ws[k + 1]? with
      | none => rw [ha, hb] at h; cases h; exact ⟨hs, Nat.le_refl _⟩
      | some b =>
        rw [ha, hb] at h
        dsimp only at h
        split at h
        · obtain ⟨h1, h2⟩ := ih (hs.erase (k + 1)).putL h
          have h3 := length_putL_le (ws.eraseIdx (k + 1)) (b.drop a.length)
          have h4 : k + 1 < ws.length := (List.getElem?_eq_some_iff.mp hb).1
          rw [List.length_eraseIdx, if_pos h4] at h3
          exact ⟨h1, by omega⟩
        · exact ih hs h

theorem row_ne {h : Heap} {L lb : Addr} {m : Str → Option Value} {its : Array Value} {n : Nat} (hn : h.Ns L m) (o : h.get? lb = some (listOf its n)) : lb ≠ L := fun q => by
  obtain ⟨oL, es, ep, e, hd, _⟩ := hn
  rw [q, e] at o; cases o; cases hd

section
variable {w : World} {A : Around} {s : Shared} {L a c : Addr} {m : Str → Option Value} {B : Heap} {ad : Nat → Addr} {mg mb : Str → Option Value} {oC : Obj} {t1 t2 : Array Value}

set_option maxHeartbeats 4000000 in
theorem law_two {cd : Addr} {n : Nat} {v0 : Option Value} {qs : List WT} {cw pw : List (List Nat)} {r : QI} {Q : Flow → Shared → Prop} (R : Rm A 6) (G : Gnd ad mg mb B) (F : Loc B L s.heap m) (N : News B L s.heap (ledT (L + 1) (ad 120) (ad 121) oC t1 t2)) (hC : oC.data = .cell v0) (hn1 : L + 1 ≠ ad 120) (hn2 : L + 1 ≠ ad 121)
    (mc : m "code" = some (.ref cd)) (ocd : B.get? cd = some (listOf (List.map sv qs).toArray n)) (ec : qs.map (·.1) = cw) (K : CodeOk cw) (X : Facts cw pw r)
    (h : ∀ B' h' tk m' lp pps n' oC', Grown B B' → Loc B' L h' m' → News B' L h' (ledT (L + 1) (ad 120) (ad 121) oC' t1 t2) → oC'.data = .cell (some (.ref lp)) → B'.get? lp = some (listOf (List.map sv pps).toArray n') → pps.map (·.1) = pw → m' "code" = some (.ref cd) →
      wpAny (model P0 w) A (execs ((body 27).drop 8) (envL L a c)) Q NoE { s with heap := h', toks := tk }) :
    wpAny (model P0 w) A (execs ((body 27).drop 5) (envL L a c)) Q NoE s := by
  obtain ⟨e25, hf25⟩ := G.fnOf 25 "_law_parts" (by decide)
  have CI := K.code ec ocd
  refine wpAny_execs_cons ?_
  refine wpAny_Assign_Name (Call_Name1 (ldgE F G e25 (callFn hf25 (spliced_cons (ldE F mc (spliced_nil (wpAny_evalAll_nil ⟨F.keep, ?_⟩)))))))
  refine parts_call (G.keeps F.keep) (R.mono (by omega)) ⟨_, F.keep _ _ ocd, rfl, _, rfl⟩ (by have := CI.n; omega) CI.srt CI.cps (fun p hp => by have := CI.len p hp; omega) (by rw [ec]; exact X.parts) fun h₂ tk₂ lp pps n₂ k₂ np op epp => ?_
  have F₂ := F.grow k₂
  have N₂ := News.join F N k₂ np op
  have out2 := fresh_out F N np
  refine stC (pre := [(lp, listOf (List.map sv pps).toArray n₂)]) (c := L + 1) (post := [(ad 120, tabObj t1), (ad 121, tabObj t2)]) F₂ N₂ hC (fun p hp => by simp only [List.mem_singleton] at hp; subst hp; exact (out2.2 _ (.head _)).symm) (fun p hp => by
    simp only [List.mem_cons, List.not_mem_nil, or_false] at hp
    rcases hp with rfl | rfl
    · exact hn1.symm
    · exact hn2.symm) fun h₃ oC' hC' F₃ N₃ => ?_
  dsimp only at F₃ N₃ ⊢
  obtain ⟨B₄, g₄, F₄, N₄, hin₄⟩ := rebase F₃ (News.tail' (p := (lp, listOf (List.map sv pps).toArray n₂)) N₃)
  have op₄ : B₄.get? lp = some (listOf (List.map sv pps).toArray n₂) := hin₄ _ _ (N₃.get (.head _)) out2.1 (fun p hp => by
    rcases List.mem_cons.mp hp with rfl | hp
    · exact out2.2 (L + 1, oC) (.head _)
    · exact out2.2 _ (.tail _ hp))
  have G₄ := G.keeps g₄
  have hcell₄ : h₃.IsCell (L + 1) (some (.ref lp)) := ⟨oC', (N₄ _ (.head _)).1, hC'⟩
  have hpi := partsL_inv CI.srt (by rw [ec]; exact X.parts : partsL 200 (qs.map (·.1)) 0 = some pw)
  have hpl : pps.length ≤ 10 := by
    have h1 := congrArg List.length epp
    have h2 := hpi.2
    have := CI.n
    simp only [List.length_map] at h1 h2
    omega
  have hmem : ∀ p ∈ pps, p.1 ∈ pw := fun p hp => by rw [← epp]; exact List.mem_map_of_mem hp
  refine wpAny_execs_cons ?_
  refine wpAny_If (wpAny_isTrue_Compare1 ?_)
  refine pre_comp R.handled hcell₄ (ps := pps) ⟨_, F₄.keep _ _ op₄, rfl, _, rfl⟩ (fun p hp q hq hne => X.pre _ (hmem p hp) _ (hmem q hq) hne) fun h₅ tk₅ D k₅' k₅ nD oD => ?_
  have F₅ := F₄.grow k₅
  have N₅ := News.grow' N₄ k₅
  refine list_disp (spliced_nil ⟨by simp, fun h₆ e₆ k₆ n₆ o₆ => ?_⟩)
  refine ne_strs (ps := []) (qs := []) ⟨_, k₆ _ _ oD, rfl, _, rfl⟩ ⟨_, o₆, rfl, _, rfl⟩ (fun p hp => noMem hp) (fun p hp => noMem hp) R.u (wpAny_truthy_bool ?_)
  have F₆ := F₅.grow k₆
  have N₆ := News.grow' N₅ k₆
  rw [if_neg (by decide)]
  refine wpAny_execs_nil ?_
  refine wpAny_execs_cons ?_
  refine wpAny_If (wpAny_isTrue_Compare1 ?_)
  have mc' : m "code" = some (.ref cd) := mc
  refine made_comp (led := []) (m := m) (ad := ad) (mg := mg) (mb := mb) (R.mono (by omega)) G₄ (by exact F₆) mc' (ps := qs) (qs := pps) (lp := lp) ⟨_, F₆.keep _ _ (g₄ _ _ ocd), rfl, _, rfl⟩ (hcell₄.keeps (Grown.trans k₅ k₆)) ⟨_, F₆.keep _ _ op₄, rfl, _, rfl⟩ (by rw [epp]; exact hpi.1) (by omega) (fun p hp => X.ne _ (hmem p hp)) (fun p hp => by have := CI.len p hp; omega) (fun p hp => ?_) fun h₇ tk₇ D₇ k₇' k₇ nD₇ oD₇ => ?_
  · rw [epp]; exact X.made _ (by rw [← ec]; exact List.mem_map_of_mem hp)
  have F₇ := F₆.grow k₇
  have N₇ := News.grow' N₆ k₇
  refine list_disp (spliced_nil ⟨by simp, fun h₈ e₈ k₈ n₈ o₈ => ?_⟩)
  refine ne_strs (ps := []) (qs := []) ⟨_, k₈ _ _ oD₇, rfl, _, rfl⟩ ⟨_, o₈, rfl, _, rfl⟩ (fun p hp => noMem hp) (fun p hp => noMem hp) R.u (wpAny_truthy_bool ?_)
  rw [if_neg (by decide)]
  refine wpAny_execs_nil ?_
  exact h B₄ h₈ _ m lp pps n₂ oC' g₄ (F₇.grow k₈) (News.grow' N₇ k₈) hC' op₄ epp mc
end
end Mine

namespace Mine
local macro_rules | `(tactic| walk_at "lk") => `(tactic| first | with_reducible assumption | exact upd_self | (refine (upd_ne (by decide)).trans ?_; walk_at "lk") | exact rfl)

section
variable {w : World} {A : Around} {E : Value → Shared → Prop} {s : Shared} {env : Env}
theorem isTrue_or3 {a b c : Expr} {p : Pos} {wh : Sem Value} {Q : Bool → Shared → Prop}
    (h : wpAny (model P0 w) A (isTrue a env (eval a env)) (fun b1 s₁ => if b1 = true then Q true s₁ else wpAny (model P0 w) A (isTrue b env (eval b env)) (fun b2 s₂ => if b2 = true then Q true s₂ else wpAny (model P0 w) A (isTrue c env (eval c env)) (fun b3 s₃ => Q b3 s₃) E s₂) E s₁) E s) :
    wpAny (model P0 w) A (isTrue (.BoolOp .Or [a, b, c] p) env wh) Q E s := by
  show wpAny (model P0 w) A (isTrue a env (eval a env) >>= _) Q E s
  refine wpAny_bind (wpAny_mono h (fun b1 s₁ h₁ => ?_) fun _ _ e => e)
  cases b1 with
  | true => exact wpAny_pure h₁
  | false =>
    show wpAny (model P0 w) A (isTrue b env (eval b env) >>= _) Q E s₁
    refine wpAny_bind (wpAny_mono h₁ (fun b2 s₂ h₂ => ?_) fun _ _ e => e)
    cases b2 with
    | true => exact wpAny_pure h₂
    | false =>
      show wpAny (model P0 w) A (isTrue c env (eval c env) >>= _) Q E s₂
      refine wpAny_bind (wpAny_mono h₂ (fun b3 s₃ h₃ => ?_) fun _ _ e => e)
      cases b3 <;> exact wpAny_pure h₃
end
theorem cost_le (ws : List (List Nat)) (h : ∀ x ∈ ws, x.length ≤ 6) : ∀ row, cost ws row ≤ 8 * row.length
  | [] => Nat.le_refl _
  | y :: r => by
    have ih := cost_le ws h r
    have hy : (ws.getD (y - 256) []).length ≤ 6 := by
      rw [List.getD_eq_getElem?_getD]
      cases e : ws[y - 256]? with
      | none => simp
      | some x => exact h x (List.mem_of_getElem? e)
    rw [cost, List.length_cons]
    split <;> omega
theorem sum_cast (l : List Nat) : (l.map fun n : Nat => (n : Int)).sum = ((l.sum : Nat) : Int) := by
  induction l with
  | nil => rfl
  | cons a r ih => rw [List.map_cons, List.sum_cons, List.sum_cons, ih]; simp
theorem head_row {rs : List IT} {row : List Nat} (e : rs.map (·.1) = row.map Int.ofNat) (hne : row ≠ []) : ∃ t, (List.map iv rs).toArray[0]? = some (.int ((row.headD 0 : Nat) : Int) t) := by
  cases row with
  | nil => exact absurd rfl hne
  | cons y r =>
    cases rs with
    | nil => cases e
    | cons p q =>
      refine ⟨p.2, ?_⟩
      have : p.1 = Int.ofNat y := (List.cons.inj e).1
      simp [iv, this]

section
variable {w : World} {A : Around} {s : Shared} {L a c : Addr} {m : Str → Option Value} {B : Heap} {ad : Nat → Addr} {mg mb : Str → Option Value} {oC : Obj} {t1 t2 : Array Value}

set_option maxHeartbeats 4000000 in
theorem law_none {cd : Addr} {n : Nat} {qs : List WT} {cw pw : List (List Nat)} {r : QI} {led : List (Addr × Obj)} {Q : Flow → Shared → Prop} (R : Rm A 6) (G : Gnd ad mg mb B) (F : Loc B L s.heap m)
    (mc : m "code" = some (.ref cd)) (ocd : B.get? cd = some (listOf (List.map sv qs).toArray n)) (ec : qs.map (·.1) = cw) (K : CodeOk cw) (X : Facts cw pw r) (h0 : r.size = 0)
    (h : ∀ h' tk, Grown s.heap h' → Q (.ret (.bool true)) { s with heap := h', toks := tk }) :
    wpAny (model P0 w) A (execs (ifBody (nthS (body 27) 9)) (envL L a c)) Q NoE s := by
  obtain ⟨e24, hf24⟩ := G.fnOf 24 "_law_readers" (by decide)
  have CI := K.code ec ocd
  have hl6 : ∀ p ∈ qs, p.1.length ≤ 6 := fun p hp => (w24_len _ (K.mem _ (by rw [← ec]; exact List.mem_map_of_mem hp))).2.1
  have hne : ∀ p ∈ qs, p.1 ≠ [] := fun p hp => (w24_len _ (K.mem _ (by rw [← ec]; exact List.mem_map_of_mem hp))).1
  refine wpAny_execs_cons ?_
  refine wpAny_Return_some (BoolOp_and (wpAny_Compare1 (Call_Name1 (ldbE F G boot_sum (callWith_builtin1 ?_)))))
  refine kraft_comp (m := m) (ad := ad) (mg := mg) (mb := mb) R.handled G F mc (ps := qs) ⟨_, F.keep _ _ ocd, rfl, _, rfl⟩ CI.n hl6 fun h₂ tk₂ D us k k₂ nD oD eus => ?_
  refine sum_ints R.handled ⟨_, oD, rfl, _, rfl⟩ fun h₃ tk₃ t₃ k₃ => ?_
  refine wpAny_Constant_int (le_int (wpAny_truthy_bool ?_))
  have hk : (us.map (·.1)).sum = ((kraft cw : Nat) : Int) := by
    rw [eus, ec]
    have : (cw.map fun x => ((2 ^ (6 - x.length) : Nat) : Int)) = (cw.map fun x => 2 ^ (6 - x.length)).map fun n : Nat => (n : Int) := by rw [List.map_map]; rfl
    rw [this, sum_cast]; rfl
  have hkr := X.none h0
  rw [hk, if_pos (by simp; omega)]
  refine BoolOp_one (wpAny_Compare1 ?_)
  have F₃ := (F.grow k₂).grow k₃
  refine Call_Name1 (ldgE F₃ G e24 (callFn hf24 (spliced_cons (ldE F₃ mc (spliced_nil (wpAny_evalAll_nil ⟨F₃.keep, ?_⟩))))))
  refine readers_call (ps := qs) (fuel := 700) (res := r.size) (G.keeps F₃.keep) (R.mono (by omega)) ⟨_, F₃.keep _ _ ocd, rfl, _, rfl⟩ CI.n (fun p hp => ⟨hne p hp, CI.len p hp⟩) (by rw [ec]; exact X.read) fun h₄ tk₄ t₄ k₄ => ?_
  rw [h0]
  refine wpAny_Constant_int (eq_int ?_)
  exact h h₄ _ (Grown.trans k₂ (Grown.trans k₃ k₄))

set_option maxHeartbeats 4000000 in
theorem law_found {cd lp lb la : Addr} {n n' nb na : Nat} {qs pps : List WT} {rsb rsa : List IT} {cw pw : List (List Nat)} {r : QI} {tz : Tok} {Q : Flow → Shared → Prop} (R : Rm A 6) (G : Gnd ad mg mb B) (F : Loc B L s.heap m) (N : News B L s.heap (ledT (L + 1) (ad 120) (ad 121) oC t1 t2)) (hC : oC.data = .cell (some (.ref lp)))
    (mc : m "code" = some (.ref cd)) (mz : m "size" = some (.int ((r.size : Nat) : Int) tz)) (mb' : m "behind" = some (.ref lb)) (ma : m "ahead" = some (.ref la))
    (ocd : B.get? cd = some (listOf (List.map sv qs).toArray n)) (ec : qs.map (·.1) = cw) (olp : B.get? lp = some (listOf (List.map sv pps).toArray n')) (epp : pps.map (·.1) = pw)
    (ob : B.get? lb = some (listOf (List.map iv rsb).toArray nb)) (eb : rsb.map (·.1) = r.behind.map Int.ofNat) (oa : B.get? la = some (listOf (List.map iv rsa).toArray na)) (ea : rsa.map (·.1) = r.ahead.map Int.ofNat)
    (K : CodeOk cw) (X : Facts cw pw r) (h0 : r.size ≠ 0)
    (h : ∀ h' tk, Grown B h' → News B L h' (ledT (L + 1) (ad 120) (ad 121) oC t1 t2) → Q (.ret (.bool true)) { s with heap := h', toks := tk }) :
    wpAny (model P0 w) A (execs ((body 27).drop 10) (envL L a c)) Q NoE s := by
  obtain ⟨e23, hf23⟩ := G.fnOf 23 "_law_spelled" (by decide)
  obtain ⟨e24, hf24⟩ := G.fnOf 24 "_law_readers" (by decide)
  obtain ⟨x1, x2, x3, x4, x5, x6, x7, x8, x9, x10⟩ := X.found h0
  have CI := K.code ec ocd
  have hw : ∀ p ∈ qs, p.1 ≠ [] ∧ p.1.length ≤ 6 ∧ ∀ d ∈ p.1, 0 < d ∧ d < 256 := fun p hp => w24_len _ (K.mem _ (by rw [← ec]; exact List.mem_map_of_mem hp))
  have hql : qs.length = cw.length := by rw [← ec]; simp
  have hcost : ∀ row : List Nat, row.length ≤ 100 → cost (qs.map (·.1)) row < 100000 := fun row hr => by
    have := cost_le (qs.map (·.1)) (fun x hx => by obtain ⟨p, hp, rfl⟩ := List.mem_map.mp hx; exact (hw p hp).2.1) row
    omega
  refine wpAny_execs_cons ?_
  refine wpAny_Assign_Name (Call_Name rfl (ldgE F G e23 (callFn hf23 (spliced_cons (ldE F mc (spliced_cons (ldE F mb' (spliced_nil (wpAny_evalAll_nil ⟨F.keep, ?_⟩)))))))))
  refine spelled_call (nr := 0) (ps := qs) (rs := rsb) (row := r.behind) (G.keeps F.keep) (R.mono (by omega)) ⟨_, F.keep _ _ ocd, rfl, _, rfl⟩ ⟨_, F.keep _ _ ob, rfl, _, rfl⟩ eb (fun p hp => (hw p hp).2.2) (by have := CI.n; omega) (by rw [hql]; exact x4) (hcost _ x9) fun h₂ tk₂ t₂ k₂ => ?_
  rw [ec]
  refine stE (F.grow k₂) (News.grow' N k₂) fun h₃ tk₃ F₃ N₃ => ?_
  dsimp only at F₃ N₃ ⊢
  obtain ⟨th, hhb⟩ := head_row eb x1
  obtain ⟨th', hha⟩ := head_row ea x2
  refine wpAny_execs_cons ?_
  refine wpAny_If (isTrue_or3 (wpAny_isTrue_Compare1 ?_))
  refine sub_any (ldE F₃ (by walk_at "lk") (wpAny_Constant_int (item_list (x := .int ((r.behind.headD 0 : Nat) : Int) th) ⟨_, F₃.keep _ _ ob, rfl, _, rfl⟩ (by decide) (by decide) hhb ?_)))
  refine sub_any (ldE (by exact F₃) (by walk_at "lk") (wpAny_Constant_int (item_list (x := .int ((r.ahead.headD 0 : Nat) : Int) th') ⟨_, F₃.keep _ _ oa, rfl, _, rfl⟩ (by decide) (by decide) hha ?_)))
  refine eq_int (wpAny_truthy_bool ?_)
  have hne : (((r.behind.headD 0 : Nat) : Int) == ((r.ahead.headD 0 : Nat) : Int)) = false := by
    rw [beq_eq_false_iff_ne]; omega
  rw [hne, if_neg (by decide)]
  refine wpAny_isTrue_Compare1 (ldE (by exact F₃) upd_self ?_)
  refine Call_Name rfl (ldgE (by exact F₃) G e23 (callFn hf23 (spliced_cons (ldE (by exact F₃) (by walk_at "lk") (spliced_cons (ldE (by exact F₃) (by walk_at "lk") (spliced_nil (wpAny_evalAll_nil ⟨F₃.keep, ?_⟩))))))))
  refine spelled_call (nr := 0) (ps := qs) (rs := rsa) (row := r.ahead) (G.keeps F₃.keep) (R.mono (by omega)) ⟨_, F₃.keep _ _ ocd, rfl, _, rfl⟩ ⟨_, F₃.keep _ _ oa, rfl, _, rfl⟩ ea (fun p hp => (hw p hp).2.2) (by have := CI.n; omega) (by rw [hql]; exact x5) (hcost _ x10) fun h₄ tk₄ t₄ k₄ => ?_
  rw [ec, ← x6]
  refine P.ne_str (wpAny_truthy_bool ?_)
  rw [ne_S, if_neg (by simp)]
  have F₄ := F₃.grow k₄
  have N₄ := News.grow' N₃ k₄
  have hcell : h₄.IsCell (L + 1) (some (.ref lp)) := ⟨oC, (N₄ _ (.head _)).1, hC⟩
  have hppl : pps.length < cw.length := by
    have := congrArg List.length epp
    rw [List.length_map] at this
    omega
  have hcl := K.len
  refine wpAny_isTrue_Compare1 ?_
  refine Call_Name1 (ldbE F₄ G boot_len (callWith_builtin1 (ldC hcell (len_list ⟨_, F₄.keep _ _ olp, rfl, _, rfl⟩ (by simp; omega) ?_))))
  refine Call_Name1 (ldbE (by exact F₄) G boot_len (callWith_builtin1 (ldE (by exact F₄) (by walk_at "lk") (len_list ⟨_, F₄.keep _ _ ocd, rfl, _, rfl⟩ (by simp; omega) ?_))))
  refine ge_int (wpAny_truthy_bool ?_)
  rw [if_neg (by simp; omega)]
  refine wpAny_execs_nil ?_
  refine wpAny_execs_cons ?_
  have hsz : r.size ≤ 1000 := by
    have := expand_length cw r.behind
    have h3 := hcost r.behind x9
    rw [ec] at h3
    have h4 := cost_le cw (fun x hx => (w24_len _ (K.mem x hx)).2.1) r.behind
    omega
  refine wpAny_Return_some (BoolOp_and (wpAny_Compare1 ?_))
  refine Call_Name1 (ldbE (by exact F₄) G boot_len (callWith_builtin1 (ldE (by exact F₄) upd_self (SBL.len (by rw [slen, x7]; omega) ?_))))
  rw [slen, x7]
  refine ldE (by exact F₄) (by walk_at "lk") (eq_int (wpAny_truthy_bool ?_))
  rw [if_pos (by simp)]
  refine BoolOp_one (wpAny_Compare1 (ldE (by exact F₄) (by walk_at "lk") ?_))
  refine Call_Name1 (ldgE (by exact F₄) G e24 (callFn hf24 (spliced_cons (ldE (by exact F₄) (by walk_at "lk") (spliced_nil (wpAny_evalAll_nil ⟨F₄.keep, ?_⟩))))))
  refine readers_call (ps := qs) (fuel := 700) (res := r.size) (G.keeps F₄.keep) (R.mono (by omega)) ⟨_, F₄.keep _ _ ocd, rfl, _, rfl⟩ CI.n (fun p hp => ⟨(hw p hp).1, CI.len p hp⟩) (by rw [ec]; exact X.read) fun h₅ tk₅ t₅ k₅ => ?_
  refine eq_int ?_
  have : (((r.size : Nat) : Int) == ((r.size : Nat) : Int)) = true := by simp
  rw [this]
  exact h h₅ _ (Grown.trans F₄.keep k₅) (News.grow' N₄ k₅)
end
end Mine

namespace Mine
local macro_rules | `(tactic| walk_at "lk") => `(tactic| first | with_reducible assumption | exact upd_self | (refine (upd_ne (by decide)).trans ?_; walk_at "lk") | exact rfl)

section
variable {w : World} {A : Around} {s : Shared} {L a c : Addr} {m : Str → Option Value} {B : Heap} {ad : Nat → Addr} {mg mb : Str → Option Value} {oC : Obj} {t1 t2 : Array Value}

set_option maxHeartbeats 4000000 in
theorem law_three {cd lp : Addr} {n n' : Nat} {qs pps : List WT} {cw pw : List (List Nat)} {r : QI} {Q : Flow → Shared → Prop} (R : Rm A 6) (G : Gnd ad mg mb B) (F : Loc B L s.heap m) (N : News B L s.heap (ledT (L + 1) (ad 120) (ad 121) oC t1 t2)) (hC : oC.data = .cell (some (.ref lp)))
    (hn1 : L + 1 ≠ ad 120) (hn2 : L + 1 ≠ ad 121) (h12 : ad 120 ≠ ad 121) (hok1 : TabOk B posB qualB t1) (hok2 : TabOk B posW qualW t2)
    (mc : m "code" = some (.ref cd)) (ocd : B.get? cd = some (listOf (List.map sv qs).toArray n)) (ec : qs.map (·.1) = cw) (olp : B.get? lp = some (listOf (List.map sv pps).toArray n')) (epp : pps.map (·.1) = pw)
    (K : CodeOk cw) (X : Facts cw pw r)
    (h : ∀ h' tk t1' t2', Grown B h' → h'.get? (ad 120) = some (tabObj t1') → h'.get? (ad 121) = some (tabObj t2') → Q (.ret (.bool true)) { s with heap := h', toks := tk }) :
    wpAny (model P0 w) A (execs ((body 27).drop 8) (envL L a c)) Q NoE s := by
  obtain ⟨e22, hf22⟩ := G.fnOf 22 "_law_shortest" (by decide)
  have CI := K.code ec ocd
  have m1 : (ad 120, tabObj t1) ∈ ledT (L + 1) (ad 120) (ad 121) oC t1 t2 := .tail _ (.head _)
  have m2 : (ad 121, tabObj t2) ∈ ledT (L + 1) (ad 120) (ad 121) oC t1 t2 := .tail _ (.tail _ (.head _))
  refine wpAny_execs_cons ?_
  refine Assign_Tuple (Call_Name1 (ldgE F G e22 (callFn hf22 (spliced_cons (ldE F mc (spliced_nil (wpAny_evalAll_nil ⟨F.keep, ?_⟩)))))))
  refine shortest_call (ps := qs) (res := r) G F.keep (N _ m1).2.2 (N _ m2).2.2 h12 R (N _ m1).1 (N _ m2).1 hok1 hok2 CI (Nat.le_refl 1000) (by rw [ec]; exact X.short) fun h₂ tk₂ rt t lb la t1' t2' keep o1' o2' ort rb ra => ?_
  have F₂ : Loc B L h₂ m := F.chg [ad 120, ad 121] (fun b o hb e => keep b o (fun q => hb (by simp [q])) (fun q => hb (by simp [q])) e) (by
    simp only [List.mem_cons, List.not_mem_nil, or_false, not_or]
    exact ⟨(N _ m1).2.1.symm, (N _ m2).2.1.symm⟩) (fun b hb => by
    simp only [List.mem_cons, List.not_mem_nil, or_false] at hb
    rcases hb with rfl | rfl
    · exact (N _ m1).2.2
    · exact (N _ m2).2.2)
  have N₂ : News B L h₂ (ledT (L + 1) (ad 120) (ad 121) oC t1' t2') := by
    intro p hp
    rcases List.mem_cons.mp hp with rfl | hp
    · exact ⟨keep _ _ hn1 hn2 (N _ (.head _)).1, (N _ (.head _)).2⟩
    rcases List.mem_cons.mp hp with rfl | hp
    · exact ⟨o1', (N _ m1).2⟩
    rcases List.mem_cons.mp hp with rfl | hp
    · exact ⟨o2', (N _ m2).2⟩
    · cases hp
  refine unpack3 R.handled ort fun h₃ k₃ => ?_
  have F₃ := F₂.grow k₃
  have N₃ := News.grow' N₂ k₃
  obtain ⟨rsb, nb, ob, eb⟩ := rb
  obtain ⟨rsa, na, oa, ea⟩ := ra
  obtain ⟨B₄, g₄, F₄, N₄, hin₄⟩ := rebase F₃ N₃
  have out : ∀ {b its k}, h₃.get? b = some (listOf its k) → B₄.get? b = some (listOf its k) := fun {b its k} o => by
    refine hin₄ _ _ o (row_ne F₃.ns o) fun p hp q => ?_
    have hp1 := (N₃ p hp).1
    rw [q, o] at hp1
    rcases List.mem_cons.mp hp with rfl | hp
    · have : oC = listOf its k := (Option.some.inj hp1).symm
      rw [this] at hC; cases hC
    rcases List.mem_cons.mp hp with rfl | hp
    · cases hp1
    rcases List.mem_cons.mp hp with rfl | hp
    · cases hp1
    · cases hp
  have ob₄ := out (k₃ _ _ ob)
  have oa₄ := out (k₃ _ _ oa)
  have G₄ := G.keeps g₄
  refine stE F₄ N₄ fun h₅ _ F₅ N₅ => stE F₅ N₅ fun h₆ _ F₆ N₆ => stE F₆ N₆ fun h₇ tk₇ F₇ N₇ => ?_
  dsimp only at F₇ N₇ ⊢
  refine wpAny_execs_cons ?_
  refine wpAny_If (wpAny_isTrue_Compare1 (ldE F₇ (by walk_at "lk") (wpAny_Constant_int (eq_int (wpAny_truthy_bool ?_)))))
  by_cases h0 : r.size = 0
  · rw [if_pos (by rw [h0]; rfl)]
    refine law_none (led := []) (m := _) (ad := ad) (mg := mg) (mb := mb) (cd := cd) (qs := qs) (cw := cw) (pw := pw) (r := r) R G₄ (by exact F₇) (by walk_at "lk") (g₄ _ _ ocd) ec K X h0 fun h₈ tk₈ k₈ => ?_
    have N₈ := News.grow' N₇ k₈
    exact h h₈ _ t1' t2' (Grown.trans g₄ (Grown.trans F₇.keep k₈)) (N₈ _ (.tail _ (.head _))).1 (N₈ _ (.tail _ (.tail _ (.head _)))).1
  · rw [if_neg (by simp; omega)]
    refine wpAny_execs_nil ?_
    refine law_found (ad := ad) (mg := mg) (mb := mb) (cd := cd) (qs := qs) (cw := cw) (pw := pw) (r := r) (oC := oC) (t1 := t1') (t2 := t2') R G₄ (by exact F₇) (by exact N₇) hC (by walk_at "lk") (by walk_at "lk") (by walk_at "lk") (by walk_at "lk") (g₄ _ _ ocd) ec (g₄ _ _ olp) epp ob₄ eb oa₄ ea K X h0 fun h₈ tk₈ k₈ N₈ => ?_
    exact h h₈ _ t1' t2' (Grown.trans g₄ k₈) (N₈ _ (.tail _ (.head _))).1 (N₈ _ (.tail _ (.tail _ (.head _)))).1
end

set_option maxHeartbeats 4000000 in
theorem law_call {w : World} {A : Around} {E : Value → Shared → Prop} {s : Shared} {B : Heap} {l : Addr} {ad : Nat → Addr} {mg mb : Str → Option Value} {rs : List IT} {t1 t2 : Array Value} {Q : Value → Shared → Prop}
    (G : Gnd ad mg mb B) (hB : Grown B s.heap) (h1B : B.get? (ad 120) = none) (h2B : B.get? (ad 121) = none) (h12 : ad 120 ≠ ad 121) (R : Rm A 7) (o1 : s.heap.get? (ad 120) = some (tabObj t1)) (o2 : s.heap.get? (ad 121) = some (tabObj t2))
    (hok1 : TabOk B posB qualB t1) (hok2 : TabOk B posW qualW t2) (hl : s.heap.IsList l (rs.map iv).toArray) (hz : rs.length < 1000)
    (h : ∀ h' tk t1' t2', (∀ b o, b ≠ ad 120 → b ≠ ad 121 → s.heap.get? b = some o → h'.get? b = some o) → h'.get? (ad 120) = some (tabObj t1') → h'.get? (ad 121) = some (tabObj t2') → Q (.bool true) { s with heap := h', toks := tk }) :
    wpAny (model P0 w) A (call (.ref (ad 27)) [.ref l] []) Q E s := by
  obtain ⟨_, pm, c, doc, hf1, hf2⟩ := G.fnOf 27 "law" (by decide)
  refine enterC (c := c) (binds := [("script", .ref l)]) ⟨pm, doc, hB _ _ hf1, hf2.keeps hB⟩ (G.nolimit.keeps hB) R.d (fun _ _ => rfl) (fun n y hy => by
      simp only [List.mem_singleton] at hy; subst hy; exact .inl rfl) fun h₁ tk₁ F₀ hcell => ?_
  replace R := R.deep (envOfC "law" (sco 27) s.heap.objs.size (ad 27) (.ref c))
  have hsz1 := Heap.lt_size o1
  have hsz2 := Heap.lt_size o2
  generalize hL : s.heap.objs.size = L at *
  obtain ⟨⟨oP, hoP, hdP⟩, hP'⟩ := hcell "parts" (L + 1) rfl
  have hB1 : Grown B (hideL s.heap [ad 120, ad 121]) := fun b o e => by
    rw [hideL_out _ _ _ fun q => ?_]
    · exact hB b o e
    · simp only [List.mem_cons, List.not_mem_nil, or_false] at q
      rcases q with rfl | rfl
      · rw [h1B] at e; cases e
      · rw [h2B] at e; cases e
  have hsB : ∀ b o, b ≠ ad 120 → b ≠ ad 121 → s.heap.get? b = some o → (hideL s.heap [ad 120, ad 121]).get? b = some o := fun b o n1 n2 e => by
    rw [hideL_out _ _ _ fun q => ?_]
    · exact e
    · simp only [List.mem_cons, List.not_mem_nil, or_false] at q
      rcases q with q | q
      · exact n1 q
      · exact n2 q
  have hLn : s.heap.get? L = none := by rw [← hL]; exact get_size _
  have hPn : s.heap.get? (L + 1) = none := get_above (by rw [hL]; exact Nat.le_succ _)
  have F : Loc (hideL s.heap [ad 120, ad 121]) L h₁ _ := ⟨F₀.ns, fun b o e => F₀.keep b o (hideL_of _ _ _ _ e), by
    cases e : (hideL s.heap [ad 120, ad 121]).get? L with
    | none => rfl
    | some o => rw [hideL_of _ _ _ _ e] at hLn; cases hLn⟩
  have N : News (hideL s.heap [ad 120, ad 121]) L h₁ (ledT (L + 1) (ad 120) (ad 121) oP t1 t2) := by
    intro p hp
    rcases List.mem_cons.mp hp with rfl | hp
    · refine ⟨hoP, Nat.ne_of_gt hP', ?_⟩
      cases e : (hideL s.heap [ad 120, ad 121]).get? (L + 1) with
      | none => rfl
      | some o => rw [hideL_of _ _ _ _ e] at hPn; cases hPn
    rcases List.mem_cons.mp hp with rfl | hp
    · exact ⟨F₀.keep _ _ o1, Nat.ne_of_lt hsz1, hideL_in _ _ _ (.head _)⟩
    rcases List.mem_cons.mp hp with rfl | hp
    · exact ⟨F₀.keep _ _ o2, Nat.ne_of_lt hsz2, hideL_in _ _ _ (.tail _ (.head _))⟩
    · cases hp
  have hn1 : L + 1 ≠ ad 120 := Nat.ne_of_gt (Nat.lt_succ_of_lt hsz1)
  have hn2 : L + 1 ≠ ad 121 := Nat.ne_of_gt (Nat.lt_succ_of_lt hsz2)
  have G0 := G.keeps hB1
  have hdl : (drawnL (rs.map (·.1))).length = 4 := by unfold drawnL; simp; omega
  have hwm : ∀ x ∈ (drawnL (rs.map (·.1))).map wordOf, x ∈ W24 := fun x hx => by
    obtain ⟨y, _, rfl⟩ := List.mem_map.mp hx
    exact wordOf_in y
  obtain ⟨pw, r, X⟩ := facts_code ((drawnL (rs.map (·.1))).map wordOf) hwm (by rw [List.length_map]; omega) (fun q => by have := congrArg List.length q; rw [List.length_map, hdl] at this; cases this)
  have K : CodeOk (codeOf ((drawnL (rs.map (·.1))).map wordOf)) := ⟨codeOf_srt _, fun x hx => hwm x (codeOf_mem _ x hx), Nat.le_trans (codeOf_len _) (by rw [List.length_map]; omega)⟩
  refine law_one R G0 F N rfl (listK hl (F₀.keep)) hz fun B₂ h₂ tk₂ m₂ cd qs n g₂ F₂ N₂ ocd ec mc => ?_
  refine law_two R (G0.keeps g₂) F₂ N₂ hdP hn1 hn2 mc ocd ec K X fun B₃ h₃ tk₃ m₃ lp pps n₃ oC' g₃ F₃ N₃ hC' olp epp mc' => ?_
  refine law_three R ((G0.keeps g₂).keeps g₃) F₃ N₃ hC' hn1 hn2 h12 (((hok1.keeps hB1).keeps g₂).keeps g₃) (((hok2.keeps hB1).keeps g₂).keeps g₃) mc' (g₃ _ _ ocd) ec olp epp K X fun h₄ tk₄ t1' t2' g₄ o1' o2' => ?_
  exact h h₄ tk₄ t1' t2' (fun b o n1 n2 e => g₄ _ _ (g₃ _ _ (g₂ _ _ (hsB b o n1 n2 e)))) o1' o2'
end Mine

namespace Mine

theorem run_through {prog : Program} {w : World} {t : Sem Fin} {s : Shared} {R : Shared → Prop} (hreg : s.asleep)
    (h : wpAny (model prog w) callerA t (fun fin s' => ∃ f, fin = .done f ∧ (R s' ∧ s'.gens = #[])) (fun _ _ => False) s) :
    ∃ n s₁ th, schedN (denote table) prog w n (.single s ⟨t, .builtin "claim.caller" {}, default, []⟩) = .running (.single s₁ th) ∧ through th = true ∧ s₁.heap.life = s.heap.life ∧ R s₁ ∧ s₁.gens = #[] := by
  have h0 := wp_of_wpAny_done (R := fun r s' => (match r with | .ok _ => R s' ∧ s'.gens = #[] | .error _ => False) ∧ leftWithCleanup s'.gens = false) caller_in
    (wpAny_mono h (fun fin s' x => x.elim fun f x => ⟨f, x.1, x.2, leftWithCleanup_false_of_bare (by rw [x.2.2]; simp)⟩) fun _ _ e => e.elim) default
  obtain ⟨n, r, s', hn, hR⟩ := (wp_iff_halts t _ default s).mp h0
  cases r with
  | error e => exact hR.elim
  | ok f =>
  obtain ⟨hR, hg⟩ := hR
  obtain ⟨s'', hr, hf, hc⟩ := runNI_real _ _ _ hn (outcomeOf_ends _)
  have hlife := runN_life _ _ _ hr
  have key : ∀ (n : Nat) (s₀ : Shared) (t₀ : Thread), runN (denote table) prog w n s₀ t₀ = .halted (outcomeOf (.ok f)) s'' → (∀ k s₁ t₁, runN (denote table) prog w k s₀ t₀ = .running s₁ t₁ → t₁.calm = true) →
      ∃ k s₁ t₁, runN (denote table) prog w k s₀ t₀ = .running s₁ t₁ ∧ step (denote table) prog w s₁ t₁ = .halt (outcomeOf (.ok f)) s'' := by
    intro n
    induction n with
    | zero => intro s₀ t₀ h _; cases h
    | succ n ih =>
      intro s₀ t₀ h hc
      unfold runN at h
      cases hs : step (denote table) prog w s₀ t₀ with
      | go s₂ t₂ =>
        rw [hs] at h
        obtain ⟨k, s₁, t₁, a, b⟩ := ih s₂ t₂ h fun k s₁ t₁ e => hc (k + 1) s₁ t₁ (by unfold runN; rw [hs]; exact e)
        exact ⟨k + 1, s₁, t₁, by unfold runN; rw [hs]; exact a, b⟩
      | halt o s₂ =>
        rw [hs] at h
        obtain ⟨rfl, rfl⟩ : o = outcomeOf (.ok f) ∧ s₂ = s'' := by cases h; exact ⟨rfl, rfl⟩
        exact ⟨0, s₀, t₀, rfl, hs⟩
  obtain ⟨k, s₁, t₁, hk, hs⟩ := key n s _ hr hc
  have hcalm := hc k s₁ t₁ hk
  -- the kernel of the step says where a run ends
  have hloud : t₁.loud = false := by
    rw [Thread.calm_eq] at hcalm
    cases hh : t₁.loud <;> simp_all
  have hI : ∃ s₃, stepI (denote table) prog w s₁ t₁ = .halt (outcomeOf (.ok f)) s₃ ∧ s₃.forget = s''.forget := by
    rw [stepI_quiet _ _ _ hloud]
    have e := stepK_forget (denote table) prog w s₁ t₁
    rw [hs] at e
    cases hq : stepK (denote table) prog w s₁ t₁ with
    | go a b => rw [hq] at e; cases e
    | halt o a =>
      rw [hq] at e
      simp only [Step.forget] at e
      injection e with e1 e2
      exact ⟨a, by rw [e1], e2⟩
  obtain ⟨s₃, h3, hf3⟩ := hI
  obtain ⟨cur, code, pos, stack⟩ := t₁
  obtain ⟨rfl, rfl, rfl, _⟩ := step_halt_result (M := model prog w) (r := .ok f) h3
  have e1 : s₃ = s' := Shared.eq_of_forget_eq (hf3.trans hf) hg
  subst e1
  have hne : ∀ k s₂, runN (denote table) prog w k s ⟨t, .builtin "claim.caller" {}, default, []⟩ ≠ .halted (.unsupported "lifetime:generator-with-cleanup-left-suspended") s₂ := by
    intro k' s₂ hk'
    have a := runN_mono (denote table) prog w n k' s _ _ s'' hr
    have b := runN_mono (denote table) prog w k' n s _ _ s₂ hk'
    rw [Nat.add_comm, b] at a
    injection a with a1 _
    cases a1
  refine ⟨k, s₃, ⟨leafOf (.ok f), code, pos, []⟩, ?_, rfl, ?_, hR, hg⟩
  · rw [schedN_eq_runN (denote table) prog w s _ hreg ⟨hc, hne⟩ k, hk]; rfl
  · have : s''.heap = s₃.heap := (Shared.forget_eq hf).1
    rw [← this]
    exact hlife
end Mine

namespace Mine

noncomputable abbrev IK (w : World) := PySem.intKind P0 w
inductive VA : List (Int × Value) → List (Int × Str) → Prop
  | nil : VA [] []
  | cons {k : Int} {x : Str} {t : Tok} {kvs ds} : VA kvs ds → VA ((k, .str x t) :: kvs) ((k, x) :: ds)
theorem VA.fst : ∀ {kvs ds}, VA kvs ds → kvs.map (·.1) = ds.map (·.1) := by
  intro kvs ds x
  induction x with
  | nil => rfl
  | cons h ih => exact congrArg (_ :: ·) ih
theorem VA.length : ∀ {kvs ds}, VA kvs ds → kvs.length = ds.length := by
  intro kvs ds x
  induction x with
  | nil => rfl
  | cons h ih => exact congrArg Nat.succ ih
theorem VA.append : ∀ {a b c d}, VA a b → VA c d → VA (a ++ c) (b ++ d) := by
  intro a b c d x y
  induction x with
  | nil => exact y
  | cons h ih => exact .cons ih

section
variable {w : World} {A : Around}
noncomputable def Lit2 (w : World) (A : Around) (p : Sem Value × Sem Value) (d : Int × Str) : Prop :=
  ∀ (E : Value → Shared → Prop) (s : Shared) (Q : Value → Value → Shared → Prop), (∀ t u tk, Q (.int d.1 t) (.str d.2 u) { s with toks := tk }) →
    wpAny (model P0 w) A p.1 (fun kv s1 => wpAny (model P0 w) A p.2 (fun vv s2 => Q kv vv s2) E s1) E s
inductive Lits (w : World) (A : Around) : List (Sem Value × Sem Value) → List (Int × Str) → Prop
  | nil : Lits w A [] []
  | cons {p d ps ds} : Lit2 w A p d → Lits w A ps ds → Lits w A (p :: ps) (d :: ds)
theorem Lits.length : ∀ {ps ds}, Lits w A ps ds → ps.length = ds.length := by
  intro ps ds x
  induction x with
  | nil => rfl
  | cons _ h ih => exact congrArg Nat.succ ih
theorem Lits.snoc {p d} (hp : Lit2 w A p d) : ∀ {ps ds}, Lits w A ps ds → Lits w A (ps ++ [p]) (ds ++ [d]) := by
  intro ps ds x
  induction x with
  | nil => exact .cons hp .nil
  | cons a h ih => exact .cons a ih

variable {E : Value → Shared → Prop}
theorem is_int (w : World) (k : Int) (t : Tok) : (IK w).is k (.int k t) = true := by
  show Value.isInt k (.int k t) = true
  simp [Value.isInt]

theorem put_all {d : Addr} (f : Sem Value × Sem Value → PUnit → Sem (ForInStep PUnit)) (hf : ∀ p r, f p r = (do let kv ← p.1; let vv ← holding [kv] p.2; holding [kv, vv] (dictSet d kv vv); pure (ForInStep.yield PUnit.unit))) :
    ∀ {ps ds}, Lits w A ps ds → ∀ (acc : List (Int × Value)) (s : Shared) (Q : PUnit → Shared → Prop), s.heap.DictOf (IK w) d acc → acc.length + ds.length < 1000000 → (acc.map (·.1) ++ ds.map (·.1)).Nodup →
      (∀ h' tk kvs, VA kvs ds → h'.DictOf (IK w) d (acc ++ kvs) → Heap.SameBut d s.heap h' → Q PUnit.unit { s with heap := h', toks := tk }) → wpAny (model P0 w) A (forIn ps PUnit.unit f) Q E s := by
  intro ps ds x
  induction x with
  | nil =>
    intro acc s Q hd hz hn hQ
    rw [List.forIn_nil]
    exact wpAny_pure (hQ s.heap s.toks [] .nil (by simpa using hd) (Heap.SameBut.refl _ _))
  | @cons p dd ps ds hp h ih =>
    intro acc s Q hd hz hn hQ
    rw [List.forIn_cons, hf]
    rw [List.length_cons] at hz
    rw [List.map_cons] at hn
    have hany : ¬ (acc.any fun kv => decide (kv.1 = dd.1)) = true := by
      rw [List.any_eq_true]; rintro ⟨kv, hkv, he⟩
      rw [List.nodup_append] at hn
      exact hn.2.2 kv.1 (List.mem_map.mpr ⟨kv, hkv, rfl⟩) dd.1 (.head _) (of_decide_eq_true he)
    refine wpAny_bind (wpAny_bind (wpAny_mono (hp E s (fun kv vv s2 => wpAny (model P0 w) A (holding [kv, vv] (dictSet d kv vv) >>= fun _ => pure (ForInStep.yield PUnit.unit)) (fun a s' => _) E s2) ?_) (fun kv s1 h1 => wpAny_bind (wpAny_holding h1)) fun _ _ e => e))
    intro t u tk
    refine wpAny_bind (wpAny_holding (wpAny_dictSet_pairs (hsz := line_ok (by omega)) (is_int w dd.1 t) hd fun h₁ hd₁ hs₁ => wpAny_pure ?_))
    rw [stored, if_neg hany] at hd₁
    refine ih (acc ++ [(dd.1, .str dd.2 u)]) _ Q hd₁ (by simp; omega) (by simpa using hn) fun h' tk' kvs hv hd' hs' => ?_
    exact hQ h' tk' ((dd.1, .str dd.2 u) :: kvs) (.cons hv) (by simpa using hd') (hs₁.trans hs')

theorem eval_all : ∀ {ps ds}, Lits w A ps ds → ∀ (s : Shared) (Q : List (Value × Value) → Shared → Prop), (∀ vs kvs tk, Carries (IK w) vs kvs → VA kvs ds → Q vs { s with toks := tk }) → wpAny (model P0 w) A (evalPairs ps) Q E s := by
  intro ps ds x
  induction x with
  | nil => intro s Q h; exact evalPairs_nil (h [] [] s.toks trivial .nil)
  | @cons p dd ps ds hp hl ih =>
    intro s Q h
    exact evalPairs_cons (hp E s _ fun t u tk => ih _ _ fun vs kvs tk' hc hv =>
      h (_ :: vs) ((dd.1, .str dd.2 u) :: kvs) tk' ⟨is_int w dd.1 t, rfl, hc⟩ (.cons hv))

theorem sub_ok {ps : List (Sem Value × Sem Value)} {ds : List (Int × Str)} {s : Shared} {Q : Addr → Shared → Prop} (hl : Lits w A ps ds) (hn : (ds.map (·.1)).Nodup) (hz : ds.length < 1000)
    (h : ∀ h' tk d kvs, VA kvs ds → h'.DictOf (IK w) d kvs → Grown s.heap h' → s.heap.objs.size ≤ d → Q d { s with heap := h', toks := tk }) : wpAny (model P0 w) A (subDict ps) Q E s := by
  have hlen := hl.length
  have grow : ∀ h', Heap.SameBut s.heap.objs.size (s.heap.push { cls := .type "dict", data := .dict #[] }) h' → Grown s.heap h' := fun h' hs b o e =>
    (hs.2 b (Nat.ne_of_lt (Heap.lt_size e))).trans (Heap.get?_push_of_some _ e)
  by_cases h15 : ps.length ≤ 15
  · refine wpAny_subDict (knd := IK w) h15 (eval_all hl _ _ fun vs kvs tk hc hv => ⟨kvs, hc, Heap.DictOf.new _, fun h' hd hs => ?_⟩)
    rw [merged_nil_of_nodup kvs (by rw [hv.fst]; exact hn)] at hd
    exact h h' _ _ kvs hv hd (grow h' hs) (Nat.le_refl _)
  · unfold subDict
    refine wpAny_bind (wpAny_alloc (wpAny_bind (wpAny_holding ?_)))
    rw [if_neg h15]
    refine wpAny_bind (wpAny_rule ?_)
    refine wpAny_bind (put_all _ (fun p r => rfl) hl [] _ _ (Heap.DictOf.new _) (by simp; omega) (by simpa using hn) fun h' tk kvs hv hd hs => wpAny_pure (wpAny_pure ?_))
    exact h h' _ _ kvs hv (by simpa using hd) (grow h' hs) (Nat.le_refl _)
end
end Mine

namespace Mine
section
variable {w : World} {A : Around} {E : Value → Shared → Prop} {s : Shared}

theorem put_fresh {d : Addr} {acc : List (Int × Value)} {k : Int} {key v : Value} {Q : Unit → Shared → Prop} (hkey : (IK w).is k key = true) (hm : s.heap.DictOf (IK w) d acc) (hf : k ∉ acc.map (·.1)) (hz : acc.length < 1000000)
    (hQ : ∀ h', h'.DictOf (IK w) d (acc ++ [(k, v)]) → Heap.SameBut d s.heap h' → Q () { s with heap := h' }) :
    wpAny (model P0 w) A (dictPut d ((IK w).hash k) key v) Q E s := by
  obtain ⟨o, es, ep, ho, hc, hd, hk, hp, hn⟩ := hm
  have hes : es.size ≤ sizeLine := by
    have e1 := hp.length
    have e2 : es.toList.length = es.size := by simp
    exact line_ok (by omega)
  unfold dictPut
  refine wpAny_bind (wpAny_dictFind_of hkey ho hd hk ?_)
  have hidx : (es.findIdx? fun e => (IK w).is k e.key) = acc.findIdx? fun kv => decide (kv.1 = k) := by
    rw [← hp.findIdx k]; obtain ⟨l⟩ := es; simp
  have hnone : (es.findIdx? fun e => (IK w).is k e.key) = none := by
    rw [hidx, List.findIdx?_eq_none_iff]
    intro kv hkv
    exact decide_eq_false fun e => hf (e ▸ List.mem_map.mpr ⟨kv, hkv, rfl⟩)
  rw [hnone]
  refine wpAny_updateDictKeys (hz := hes) ho hd (hQ _ ⟨_, _, ep + 1, Heap.get?_update_self _ ho (Obj.isFreed_of_dict (Obj.data_mapDictKeys hd _)),
      hc.mapDictKeys _, Obj.data_mapDictKeys hd _, hk.push hkey _, ?_, ?_⟩ (Heap.SameBut.update ..))
  · have := hp.append hkey ((IK w).hash k) v
    obtain ⟨l⟩ := es
    simpa using this
  · rw [List.map_append, List.nodup_append]
    refine ⟨hn, by simp, ?_⟩
    intro a ha b hb
    simp only [List.map_cons, List.map_nil, List.mem_singleton] at hb
    subst hb
    exact fun e => hf (e ▸ ha)

theorem merge_ok {d o : Addr} {acc more : List (Int × Value)} {Q : Unit → Shared → Prop} (hdo : d ≠ o) (hoS : o ≠ sysModules) (hd : s.heap.DictOf (IK w) d acc) (ho : s.heap.DictOf (IK w) o more) (hne : acc ≠ [])
    (hz : acc.length + more.length < 1000000) (hn : ((acc ++ more).map (·.1)).Nodup)
    (hQ : ∀ h', h'.DictOf (IK w) d (acc ++ more) → Heap.SameBut d s.heap h' → Q () { s with heap := h' }) :
    wpAny (model P0 w) A (mergeMapping d (.ref o) false) Q E s := by
  obtain ⟨oo, eso, epo, hoo, hco, hdo', hko, hpo, hno⟩ := id ho
  obtain ⟨od, esd, epd, hod, hcd, hdd, hkd, hpd, hnd⟩ := id hd
  have hlen : more.length = eso.size := by rw [← hpo.length]; simp
  have hT : s.TypeIs (.ref o) "dict" := ho.typeIs
  unfold mergeMapping
  refine wpAny_bind (wpAny_isInstance hT F.sub_dict_dict ?_)
  dsimp only
  rw [if_pos rfl]
  refine wpAny_bind (wpAny_specialOf hT F.slot_dict_iter.lookup (wpAny_bind (wpAny_pure ?_)))
  have e1 : (some (Value.builtin "dict.__iter__") == some (Value.builtin "dict.__iter__")) = true := by decide +kernel
  rw [e1]
  dsimp only
  rw [if_neg (by simpa using hoS)]
  refine wpAny_bind (wpAny_dictEntries hod hdd ?_)
  have hemp : esd.isEmpty = false := by
    have h1 : esd.size = acc.length := by rw [← hpd.length]; simp
    have h2 : acc.length ≠ 0 := fun q => hne (List.length_eq_zero_iff.mp q)
    cases hq : esd.isEmpty with
    | false => rfl
    | true =>
      rw [Array.isEmpty_iff] at hq
      rw [hq] at h1
      simp at h1
      omega
  rw [hemp]
  simp only [Bool.false_eq_true, if_false]
  refine wpAny_bind (wpAny_dictEntries hoo hdo' (wpAny_bind (wpAny_dictEpoch hoo hdo' (wpAny_bind ?_))))
  refine wpAny_forIn_list _ (fun rest _ s' => ∃ h' i, s' = { s with heap := h' } ∧ rest = List.range' i (eso.size - i) ∧ i ≤ eso.size ∧ h'.DictOf (IK w) d (acc ++ more.take i) ∧ h'.get? o = some oo ∧ Heap.SameBut d s.heap h')
    _ ?_ ?_ _ _ ⟨s.heap, 0, rfl, by rw [List.range_eq_range']; simp, Nat.zero_le _, by simpa using hd, hoo, Heap.SameBut.refl _ _⟩
  · rintro x rest b s' ⟨h', i, rfl, hr, hi, hd', hoo', hs'⟩
    have hlt : i < eso.size := by
      rcases Nat.lt_or_ge i eso.size with h | h
      · exact h
      · rw [Nat.sub_eq_zero_of_le h] at hr; simp at hr
    obtain ⟨rfl, hrest⟩ : x = i ∧ rest = List.range' (i + 1) (eso.size - (i + 1)) := by
      have e : eso.size - i = (eso.size - (i + 1)) + 1 := by omega
      rw [e, List.range'_succ] at hr
      injection hr with h1 h2
      exact ⟨h1, h2⟩
    refine wpAny_bind (wpAny_dictEntries hoo' hdo' ?_)
    rw [Array.getElem?_eq_getElem hlt]
    have hxm : x < more.length := by omega
    obtain ⟨hkey, hval⟩ := hpo.get? (e := eso[x]) (k := more[x].1) (v := more[x].2) (by simp [hlt]) (List.getElem?_eq_getElem hxm)
    obtain ⟨k', hkey', hhash⟩ := hko eso[x] (Array.getElem_mem hlt)
    obtain rfl : k' = more[x].1 := (IK w).inj _ _ _ hkey' hkey
    have hfresh : more[x].1 ∉ (acc ++ more.take x).map (·.1) := fun hm => by
      have e : (acc ++ more).map (·.1) = (acc ++ more.take x).map (·.1) ++ more[x].1 :: (more.drop (x + 1)).map (·.1) := by
        have h0 : more.map (·.1) = (more.map (·.1)).take x ++ more[x].1 :: (more.map (·.1)).drop (x + 1) := by
          have := split_at (more.map (·.1)) x (by simpa using hxm)
          simpa using this
        rw [List.map_append, h0, List.map_append, List.map_take, List.map_drop, List.append_assoc]
      rw [e, List.nodup_append] at hn
      exact hn.2.2 _ hm _ (.head _) rfl
    dsimp only
    rw [hhash, hval]
    refine wpAny_bind (wpAny_holding (put_fresh hkey hd' hfresh (by rw [List.length_append, List.length_take]; omega) fun h'' hd'' hs'' => ?_))
    have hoo'' : h''.get? o = some oo := (hs''.2 o (Ne.symm hdo)).trans hoo'
    refine wpAny_bind (wpAny_dictEpoch hoo'' hdo' ?_)
    rw [if_neg (by simp)]
    refine wpAny_pure ⟨h'', x + 1, rfl, hrest, hlt, ?_, hoo'', hs'.trans hs''⟩
    rw [List.take_add_one, List.getElem?_eq_getElem hxm]
    rw [List.append_assoc] at hd''
    exact hd''
  · rintro b s' ⟨h', i, rfl, hr, hi, hd', hoo', hs'⟩
    have hin : i = eso.size := by
      rcases Nat.lt_or_ge i eso.size with h | h
      · have e : eso.size - i = (eso.size - (i + 1)) + 1 := by omega
        rw [e, List.range'_succ] at hr; cases hr
      · omega
    rw [List.take_of_length_le (by omega)] at hd'
    exact wpAny_pure (hQ h' hd' hs')
end
end Mine

namespace Mine
section
variable {w : World} {A : Around} {E : Value → Shared → Prop} {s : Shared}

noncomputable def flushT (run : List (Sem Value × Sem Value)) (main : Option Addr) : Sem (Option Addr) :=
  if run.isEmpty then pure main else match main with
    | none => do let d ← subDict run; pure (some d)
    | some d => do
      let sub ← holding [.ref d] (subDict run)
      (holding [.ref d, .ref sub] (mergeMapping d (.ref sub) false)).onRaise fun x => do let _ ← holding [.ref d, x] (runValue (.builtin "proto.let_go" {}))
      pure (some d)

noncomputable def MainIs (w : World) (h0 h : Heap) (main : Option Addr) (dd : List (Int × Str)) : Prop :=
  (main = none ∧ dd = []) ∨ ∃ d kvs, main = some d ∧ dd ≠ [] ∧ VA kvs dd ∧ h.DictOf (IK w) d kvs ∧ h0.objs.size ≤ d

theorem dictOf_grown {h h' : Heap} {d : Addr} {kvs : List (Int × Value)} (x : h.DictOf (IK w) d kvs) (k : Grown h h') : h'.DictOf (IK w) d kvs :=
  by obtain ⟨o, es, ep, a, r⟩ := x; exact ⟨o, es, ep, k _ _ a, r⟩
theorem dictOf_lt {h : Heap} {d : Addr} {kvs : List (Int × Value)} (x : h.DictOf (IK w) d kvs) : @LT.lt Nat _ d h.objs.size := by obtain ⟨_, _, _, a, _⟩ := x; exact Heap.lt_size a

theorem flush_ok {h0 : Heap} {run : List (Sem Value × Sem Value)} {dr dd : List (Int × Str)} {main : Option Addr} {Q : Option Addr → Shared → Prop} (hl : Lits w A run dr) (hM : MainIs w h0 s.heap main dd) (hg : Grown h0 s.heap) (hsys : @LT.lt Nat _ sysModules s.heap.objs.size)
    (hsz : h0.objs.size ≤ s.heap.objs.size) (hn : ((dd ++ dr).map (·.1)).Nodup) (hz : dd.length + dr.length < 1000000) (hr : dr.length < 1000)
    (h : ∀ h' tk main', MainIs w h0 h' main' (dd ++ dr) → Grown h0 h' → @LT.lt Nat _ sysModules h'.objs.size → h0.objs.size ≤ h'.objs.size → Q main' { s with heap := h', toks := tk }) : wpAny (model P0 w) A (flushT run main) Q E s := by
  unfold flushT
  have hlen := hl.length
  by_cases he : run = []
  · subst he
    have : dr = [] := List.length_eq_zero_iff.mp (by simpa using hlen.symm)
    subst this
    rw [if_pos (by rfl)]
    exact wpAny_pure (h s.heap s.toks main (by rw [List.append_nil]; exact hM) hg hsys hsz)
  · rw [if_neg (by simpa using he)]
    have hdr : dr ≠ [] := fun q => he (List.length_eq_zero_iff.mp (by rw [hlen, q]; rfl))
    have hnr : (dr.map (·.1)).Nodup := by
      rw [List.map_append, List.nodup_append] at hn
      exact hn.2.1
    rcases hM with ⟨rfl, rfl⟩ | ⟨d, kvs, rfl, hdd, hv, hd, hge⟩
    · refine wpAny_bind (sub_ok hl hnr hr fun h' tk d kvs hv hd k hge => wpAny_pure ?_)
      refine h h' tk _ (.inr ⟨d, kvs, rfl, by simpa using hdr, by simpa using hv, hd, Nat.le_trans hsz hge⟩) (Grown.trans hg k) ?_ ?_
      · have := dictOf_lt hd; omega
      · have := dictOf_lt hd; omega
    · refine wpAny_bind (wpAny_holding (sub_ok hl hnr hr fun h₁ tk₁ o kvs' hv' ho k₁ hgo => ?_))
      have hdl := dictOf_lt hd
      have hol := dictOf_lt ho
      have hd₁ := dictOf_grown hd k₁
      refine wpAny_bind (wpAny_onRaise (wpAny_holding (merge_ok (d := d) (o := o) (acc := kvs) (more := kvs') (Nat.ne_of_lt (Nat.lt_of_lt_of_le hdl hgo)) (Nat.ne_of_gt (Nat.lt_of_lt_of_le hsys hgo)) hd₁ ho (fun q => hdd (List.length_eq_zero_iff.mp (by rw [← hv.length, q]; rfl))) (by rw [hv.length, hv'.length]; omega)
        (by rw [List.map_append, hv.fst, hv'.fst, ← List.map_append]; exact hn) fun h₂ hd₂ hs₂ => wpAny_pure ?_)))
      refine h h₂ tk₁ _ (.inr ⟨d, kvs ++ kvs', rfl, by simp [hdr], hv.append hv', hd₂, hge⟩) (fun b o' e => (hs₂.2 b ?_).trans (k₁ _ _ (hg _ _ e))) ?_ ?_
      · exact Nat.ne_of_lt (Nat.lt_of_lt_of_le (Heap.lt_size e) hge)
      · rw [hs₂.1]; show @LT.lt Nat _ sysModules h₁.objs.size; omega
      · rw [hs₂.1]; show h0.objs.size ≤ h₁.objs.size; omega

theorem display_ok {ps : List (Sem Value × Sem Value)} {ds : List (Int × Str)} {Q : Value → Shared → Prop} (hl : Lits w A ps ds) (hn : (ds.map (·.1)).Nodup) (hz : ds.length < 1000000) (h0 : ds ≠ []) (hsys : @LT.lt Nat _ sysModules s.heap.objs.size)
    (h : ∀ h' tk d kvs, VA kvs ds → h'.DictOf (IK w) d kvs → Grown s.heap h' → s.heap.objs.size ≤ d → Q (.ref d) { s with heap := h', toks := tk }) : wpAny (model P0 w) A (dictDisplay (ps.map fun p => (some p.1, p.2))) Q E s := by
  unfold dictDisplay
  refine wpAny_bind (wpAny_forIn_list _ (fun rest b s' => ∃ dd dr dn run pn h' tk, s' = { s with heap := h', toks := tk } ∧ rest = pn.map (fun p : Sem Value × Sem Value => (some p.1, p.2)) ∧ b.2 = run ∧ Lits w A pn dn ∧ Lits w A run dr ∧ ds = dd ++ dr ++ dn ∧ dr.length < 17 ∧
      MainIs w s.heap h' b.1 dd ∧ Grown s.heap h' ∧ @LT.lt Nat _ sysModules h'.objs.size ∧ s.heap.objs.size ≤ h'.objs.size) _ ?_ ?_ _ _ ⟨[], [], ds, [], ps, s.heap, s.toks, rfl, rfl, rfl, hl, .nil, rfl, by decide, .inl ⟨rfl, rfl⟩, fun _ _ e => e, hsys, Nat.le_refl _⟩)
  · rintro x rest ⟨main, run0⟩ s' ⟨dd, dr, dn, run, pn, h', tk, rfl, hr, hb, hpn, hrun, hds, hd17, hM, hg, hs, hsz⟩
    dsimp only at hb hM
    subst hb
    cases hpn with
    | nil => cases hr
    | cons hp hpn =>
      rename_i p d ps' ds'
      rw [List.map_cons] at hr
      obtain ⟨rfl, rfl⟩ := List.cons.inj hr
      have hrun' := hrun.snoc hp
      have hlen := hrun.length
      dsimp only
      by_cases h17 : (run0 ++ [(p.1, p.2)]).length = 17
      · rw [if_pos (by simpa using h17)]
        refine wpAny_bind ?_
        refine flush_ok (dr := dr ++ [d]) (dd := dd) hrun' hM hg hs hsz ?_ ?_ ?_ fun h₂ tk₂ main' hM₂ hg₂ hs₂ hsz₂ => wpAny_pure ?_
        · have e : ds = (dd ++ (dr ++ [d])) ++ ds' := by rw [hds]; simp
          rw [e, List.map_append, List.nodup_append] at hn
          exact hn.1
        · rw [hds] at hz; simp at hz ⊢; omega
        · simp; omega
        · exact ⟨dd ++ (dr ++ [d]), [], ds', [], ps', h₂, tk₂, rfl, rfl, rfl, hpn, .nil, by rw [hds]; simp, by decide, hM₂, hg₂, hs₂, hsz₂⟩
      · rw [if_neg (by simpa using h17)]
        refine wpAny_pure ⟨dd, dr ++ [d], ds', run0 ++ [p], ps', h', tk, rfl, rfl, rfl, hpn, hrun', by rw [hds]; simp, ?_, hM, hg, hs, hsz⟩
        simp at h17 ⊢; omega
  · rintro ⟨main, run0⟩ s' ⟨dd, dr, dn, run, pn, h', tk, rfl, hr, hb, hpn, hrun, hds, hd17, hM, hg, hs, hsz⟩
    dsimp only at hb hM
    subst hb
    cases hpn with
    | cons hp hpn => cases hr
    | nil =>
      rw [List.append_nil] at hds
      refine wpAny_bind ?_
      refine flush_ok (dr := dr) (dd := dd) hrun hM hg hs hsz (by rw [← hds]; exact hn) (by rw [hds] at hz; simpa using hz) (by omega) fun h₂ tk₂ main' hM₂ hg₂ hs₂ hsz₂ => ?_
      rw [← hds] at hM₂
      rcases hM₂ with ⟨_, q⟩ | ⟨d, kvs, rfl, _, hv, hd, hge⟩
      · exact absurd q h0
      · exact wpAny_pure (h h₂ tk₂ d kvs hv hd hg₂ hge)
end
end Mine

namespace Mine

noncomputable def litsOf : List (Option Expr) → List Expr → Option (List (Int × Str))
  | [], [] => some []
  | some (.Constant (.int i) _ _) :: ks, .Constant (.str x) _ _ :: vs => (litsOf ks vs).map ((i, x) :: ·)
  | _, _ => none
noncomputable def ascI : List (Int × Str) → Bool
  | a :: b :: r => decide (a.1 < b.1) && ascI (b :: r)
  | _ => true
theorem ascI_lt : ∀ (l : List (Int × Str)) (a : Int × Str), ascI (a :: l) = true → ∀ b ∈ l, a.1 < b.1
  | [], _, _, _, h => by cases h
  | c :: r, a, h, b, hb => by
    unfold ascI at h
    rw [Bool.and_eq_true, decide_eq_true_eq] at h
    rcases List.mem_cons.mp hb with rfl | hb
    · exact h.1
    · exact Int.lt_trans h.1 (ascI_lt r c h.2 b hb)
theorem ascI_nodup : ∀ (l : List (Int × Str)), ascI l = true → (l.map (·.1)).Nodup
  | [], _ => .nil
  | a :: l, h => by
    rw [List.map_cons, List.nodup_cons]
    refine ⟨fun q => ?_, ascI_nodup l ?_⟩
    · obtain ⟨b, hb, e⟩ := List.mem_map.mp q
      have := ascI_lt l a h b hb
      omega
    · cases l with
      | nil => rfl
      | cons b r =>
        unfold ascI at h
        rw [Bool.and_eq_true] at h
        exact h.2

section
variable {w : World} {A : Around} {E : Value → Shared → Prop} {s : Shared} {env : Env}
theorem lits_trees {pos : Pos} : ∀ (keys : List (Option Expr)) (values : List Expr) (ds : List (Int × Str)), litsOf keys values = some ds → keys.all (·.isSome) = true ∧ keys.length = values.length ∧ Lits w A (pairTrees keys values env pos) ds := by
  intro keys
  induction keys with
  | nil =>
    intro values ds h
    cases values with
    | nil => cases h; exact ⟨rfl, rfl, .nil⟩
    | cons v vs => cases h
  | cons k ks ih =>
    intro values ds h
    cases k with
    | none => simp [litsOf] at h
    | some k =>
      cases values with
      | nil => simp [litsOf] at h
      | cons v vs =>
        unfold litsOf at h
        split at h
        · rename_i he1 he2
          cases he1
        · rename_i i p1 p2 ks' x p3 p4 vs' he1 he2
          obtain ⟨rfl, rfl⟩ := List.cons.inj he2
          obtain ⟨hk, rfl⟩ := List.cons.inj he1
          cases hk
          obtain ⟨ds', h1, rfl⟩ := Option.map_eq_some_iff.mp h
          obtain ⟨a1, a2, a3⟩ := ih _ _ h1
          refine ⟨by simpa using a1, by simp [a2], .cons (fun E s Q hq => wpAny_Constant_int (env := env) (k := p1) (pos := p2) (wpAny_bind (wpAny_Constant_str (env := env) (k := p3) (pos := p4) (wpAny_bind (wpAny_standAt (wpAny_pure (hq _ _ _))))))) a3⟩
        · cases h

theorem dict_eval {keys : List (Option Expr)} {values : List Expr} {pos : Pos} {ds : List (Int × Str)} {Q : Value → Shared → Prop} (hl : litsOf keys values = some ds) (ha : ascI ds = true) (hz : ds.length < 1000000) (h0 : ds ≠ []) (hsys : @LT.lt Nat _ sysModules s.heap.objs.size)
    (h : ∀ h' tk d kvs, VA kvs ds → h'.DictOf (IK w) d kvs → Grown s.heap h' → s.heap.objs.size ≤ d → Q (.ref d) { s with heap := h', toks := tk }) : wpAny (model P0 w) A (eval (.Dict keys values pos) env) Q E s := by
  obtain ⟨h1, h2, h3⟩ := lits_trees (w := w) (A := A) (env := env) (pos := pos) keys values ds hl
  rw [arm_eval_Dict, zip_pairTrees keys values env pos h1 h2]
  exact wpAny_bind (wpAny_standAt (display_ok h3 (ascI_nodup ds ha) hz h0 hsys h))
end

theorem pairs_world {w w' : World} {es : List DictEntry} {kvs : List (Int × Value)} (h : Pairs (IK w) es kvs) : Pairs (IK w') es kvs := by
  induction h with
  | nil => exact .nil
  | cons a b _ ih => exact .cons a b ih
theorem dict_world {w w' : World} {h : Heap} {d : Addr} {kvs : List (Int × Value)} (x : h.DictOf (IK w) d kvs) : h.DictOf (IK w') d kvs :=
  by obtain ⟨o, es, ep, a, b, c, e, f, g⟩ := x; exact ⟨o, es, ep, a, b, c, e, pairs_world f, g⟩
theorem VA.find : ∀ {kvs ds}, VA kvs ds → ∀ k, (∃ t x, valueAt kvs k = some (.str x t) ∧ (ds.find? fun d => decide (d.1 = k)).map (·.2) = some x) ∨ (valueAt kvs k = none ∧ (ds.find? fun d => decide (d.1 = k)).map (·.2) = none) := by
  intro kvs ds x k
  induction x with
  | nil => exact .inr ⟨rfl, rfl⟩
  | @cons j x t kvs ds h ih =>
    by_cases e : j = k
    · refine .inl ⟨t, x, ?_, ?_⟩
      · simp [valueAt, e]
      · simp [e]
    · simpa [valueAt, e] using ih

noncomputable def dKeys : List (Option Expr) := match stm 7 with
  | .Assign _ (.Dict ks _ _) _ => ks
  | _ => []
noncomputable def dVals : List Expr := match stm 7 with
  | .Assign _ (.Dict _ vs _) _ => vs
  | _ => []
noncomputable def dsB3 : List (Int × Str) := (litsOf dKeys dVals).getD []
theorem dsB3_some : (litsOf dKeys dVals).isSome = true := by decide +kernel
theorem dsB3_eq : litsOf dKeys dVals = some dsB3 := by
  have := dsB3_some
  unfold dsB3
  cases h : litsOf dKeys dVals with
  | none => rw [h] at this; cases this
  | some d => rfl
theorem dsB3_asc : ascI dsB3 = true := by decide +kernel
theorem dsB3_len : dsB3.length < 1000000 := by decide +kernel
theorem dsB3_ne : dsB3.isEmpty = false := by decide +kernel
theorem dsB3_get : (b3L.all fun p => decide ((dsB3.find? fun d => decide (d.1 = (p.1 : Int))).map (·.2) = p.2.map fun x => S x)) = true := by decide +kernel

theorem gets_of {w : World} {h : Heap} {a : Addr} {kvs : List (Int × Value)} {ds : List (Int × Str)} (hG : (b3L.all fun p => decide ((ds.find? fun d => decide (d.1 = (p.1 : Int))).map (·.2) = p.2.map fun x => S x)) = true) (hv : VA kvs ds) (hd : h.DictOf (IK w) a kvs) (ha : a ≠ sysModules) : GetsOf h a := by
  intro w' A E s Q c r t hk R hcr hQ
  have hd' := dict_world (w' := w') (dictOf_grown hd hk)
  have hg := of_decide_eq_true (List.all_eq_true.mp hG (c, r) hcr)
  dsimp only at hg
  refine call_meetsIn PySem.F.slot_dict_get hd'.typeIs PySem.F.entry_dict_get (PySem.F.args_dict_get_2 _ _) (meets_dict_get (IK w') a (is_int w' c t) (by simpa using ha)) ⟨_, hd'.mapOf, ?_⟩
  refine hQ _ s.heap _ (fun _ _ e => e) ?_
  rcases hv.find (c : Int) with ⟨t', x, h1, h2⟩ | ⟨h1, h2⟩
  · rw [h1]
    rw [h2] at hg
    cases r with
    | none => cases hg
    | some y =>
      have : x = S y := by simpa using hg
      subst this
      exact ⟨t', rfl⟩
  · rw [h1]
    rw [h2] at hg
    cases r with
    | none => rfl
    | some y => cases hg
end Mine

namespace Mine

theorem intsAre_append : ∀ {a b : List Value} {x y : List Int}, IntsAre a x → IntsAre b y → IntsAre (a ++ b) (x ++ y) := by
  intro a b x y h' h
  induction h' with
  | nil => exact h
  | cons _ _ _ ih => exact .cons _ _ ih
theorem intsAre_iv : ∀ rs : List IT, IntsAre (rs.map iv) (rs.map (·.1)) := by
  intro rs
  induction rs with
  | nil => exact .nil
  | cons p r ih => exact .cons _ _ ih
theorem intsAre_items (a : Int) : ∀ (l : List Value) (j : Nat), (∀ i v, l[i]? = some v → ∃ t, v = Value.int (a + ((j + i : Nat) : Int)) t) → IntsAre l ((List.range' j l.length).map fun i : Nat => a + (i : Int)) := by
  intro l
  induction l with
  | nil => intro _ _; exact .nil
  | cons v r ih =>
    intro j h
    obtain ⟨t, e⟩ := h 0 v rfl
    rw [e, List.length_cons, List.range'_succ, List.map_cons]
    refine .cons _ _ (ih (j + 1) fun i v' hv => ?_)
    obtain ⟨t', e'⟩ := h (i + 1) v' (by simpa using hv)
    exact ⟨t', by rw [e']; congr 2; omega⟩

section
variable {w : World} {A : Around} {E : Value → Shared → Prop} {s : Shared} {c Fm : Addr} {B : Heap} {mg mb : Str → Option Value}
noncomputable abbrev envM (c Fm : Addr) : Env := mainEnv P0 c Fm

theorem ldM {x : Str} {pos : Pos} {v : Value} {Q : Value → Shared → Prop} (F : Loc B mainGlobals s.heap mg) (hb : B.Ns builtinsNs mb) (hB : ∀ x : Str, x ≠ "__name__" → mb x = bootBuiltins x) (hm : mg x = none) (hv : bootBuiltins x = some v) (h : Q v s)
    (hn : x ≠ "__name__" := by decide) (hd : (x == ("__debug__" : Str)) = false := by decide) : wpAny (model P0 w) A (eval (.Name x pos) (envM c Fm)) Q E s :=
  Calls.Name_module rfl rfl (Calls.loadGlobal_builtin (env := envM c Fm) F.ns hm (hb.keeps F.keep) ((hB x hn).trans hv) h) hd
theorem stM {x : Str} {v : Value} {led : List (Addr × Obj)} {Q : Unit → Shared → Prop} (F : Loc B mainGlobals s.heap mg) (N : News B mainGlobals s.heap led)
    (h : ∀ h' tk, Loc B mainGlobals h' (upd mg x v) → News B mainGlobals h' led → Q () { s with heap := h', toks := tk }) (hl : (envM c Fm).kindOf x = some .local := by rfl) :
    wpAny (model P0 w) A (storeName (envM c Fm) x v) Q E s :=
  wpAny_storeName_local hl F.ns (fun h' hn hs => h h' _ (F.set hn hs) (N.set hs)) (by rfl)

noncomputable def rangeL (a n : Nat) : List Int := (List.range' 0 n).map fun i : Nat => (a : Int) + (i : Int)

theorem list_range {a n : Nat} {r : Addr} {t u v : Tok} {Q : Value → Shared → Prop} (hh : A.handled = none) (hr : IsRange s.heap r (a : Int) ((a + n : Nat) : Int) 1 t u v) (ha : a < 2000000) (hn : n < 10000)
    (h : ∀ h' tk l vs k, Grown s.heap h' → s.heap.get? l = none → h'.get? l = some (listOf (List.toArray vs) k) → IntsAre vs (rangeL a n) → vs.length = n → Q (.ref l) { s with heap := h', toks := tk }) :
    wpAny (model P0 w) A (call (.type "list") [.ref r]) Q E s := by
  refine call_list_range (n := n) hh hr (small_one (by omega) (by omega) (by omega) (by omega)) (by rw [rangeSize_one]; split <;> omega) (by omega) fun h' tk acc k hk ho hi => ?_
  obtain ⟨hs, hi⟩ := hi
  have hlen : acc.toList.length = n := by simpa using hs
  have hints := intsAre_items (a : Int) acc.toList 0 fun i v hv => by
    obtain ⟨t, e⟩ := hi i v (by simpa using hv)
    exact ⟨t, by rw [e]; congr 1 <;> omega⟩
  rw [hlen] at hints
  exact h h' tk _ acc.toList k hk (get_size _) (by simpa using ho) hints hlen

theorem set_eval {cs : List (Int × Pos)} {elts : List Expr} {a n : Nat} {p1 p2 p3 p4 p5 p6 p7 p8 p9 p10 : Pos} {za zb : Int} {Q : Value → Shared → Prop} (hza : za = (a : Int)) (hzb : zb = ((a + n : Nat) : Int)) (hh : A.handled = none) (F : Loc B mainGlobals s.heap mg) (hb : B.Ns builtinsNs mb) (hB : ∀ x : Str, x ≠ "__name__" → mb x = bootBuiltins x)
    (m1 : mg "set" = none) (m2 : mg "list" = none) (m3 : mg "range" = none) (he : elts = cs.map cInI) (hcs : cs.length < 1000) (ha : a < 2000000) (hn : n < 1000)
    (h : ∀ h' tk S k, Grown s.heap h' → s.heap.get? S = none → h'.SetOf (IK w) S (fun z => (cs.map (·.1) ++ rangeL a n).any (· == z)) k → Q (.ref S) { s with heap := h', toks := tk }) :
    wpAny (model P0 w) A (eval (.Call (.Name "set" p1) [.BinOp (.List elts p2) .Add (.Call (.Name "list" p3) [.Call (.Name "range" p4) [.Constant (.int za) 0 p5, .Constant (.int zb) 0 p6] [] p7] [] p8) p9] [] p10) (envM c Fm)) Q E s := by
  subst hza hzb
  refine Call_Name1 (ldM F hb hB m1 boot_set (ct1 (wpAny_BinOp ?_)))
  refine cints_list cs he hcs fun h₂ l₁ tk₂ rs k₂ n₂ o₂ e₂ => ?_
  have F₂ := F.grow k₂
  refine Call_Name1 (ldM F₂ hb hB m2 boot_list (ct1 ?_))
  refine Call_Name rfl (ldM (by exact F₂) hb hB m3 boot_range (PyProof.Rows.callWith_type rfl (Calls.evalArgs_plain (spliced_cons (wpAny_Constant_int (pos := p5) (k := 0) (spliced_cons (wpAny_Constant_int (pos := p6) (k := 0) (spliced_nil ?_))))))))
  refine call_range_2 ?_
  refine list_range hh (IsRange.new _ _ _ _ _ _ _) ha (by omega) fun h₃ tk₃ l₂ vs k k₃ n₃ o₃ hi hl => ?_
  have k₂₃ : Grown h₂ h₃ := Grown.trans (Grown.push _ _) k₃
  have hrl : rs.length = cs.length := by have := congrArg List.length e₂; simpa using this
  refine add_lists' (k₂₃ _ _ o₂) o₃ (by simp; omega) fun h₄ l₃ k₄ n₄ o₄ => ?_
  have hI : IntsAre ((List.map iv rs ++ vs).toArray).toList (cs.map (·.1) ++ rangeL a n) := by
    have := intsAre_append (intsAre_iv rs) hi
    rw [e₂] at this
    simpa using this
  have hns : (cs.map (·.1) ++ rangeL a n).length = (List.map iv rs ++ vs).toArray.size := by
    simp [rangeL]; omega
  refine call_set_list hh ⟨_, o₄, rfl, _, rfl⟩ hI (by have : scanBound = 4096 := rfl; simp; omega) fun h₅ tk₅ hS hk₅ => ?_
  rw [← hns] at hS
  have e : (fun k' : Int => (firstMet (fun i => (cs.map (·.1) ++ rangeL a n).getD i 0) (cs.map (·.1) ++ rangeL a n).length).any (· == k')) = fun z => (cs.map (·.1) ++ rangeL a n).any (· == z) := by
    funext k'
    rw [firstMet_any]
    congr 1
    generalize cs.map (·.1) ++ rangeL a n = l
    apply List.ext_getElem?
    intro i
    rw [List.getElem?_map]
    by_cases hi : i < l.length
    · rw [List.getElem?_range hi]; simp [List.getD_eq_getElem?_getD, hi]
    · rw [List.getElem?_eq_none (by simpa using hi), List.getElem?_eq_none (by omega)]; rfl
  rw [e] at hS
  refine h h₅ tk₅ _ _ (Grown.trans k₂ (Grown.trans k₂₃ (Grown.trans k₄ fun b o e => hk₅ b o (Heap.lt_size e) e))) ?_ hS
  have g : Grown s.heap h₄ := Grown.trans k₂ (Grown.trans k₂₃ k₄)
  cases e : s.heap.get? h₄.objs.size with
  | none => rfl
  | some o => have := g _ _ e; rw [get_size] at this; cases this
end

theorem set_world {w w' : World} {h : Heap} {a : Addr} {f : Int → Bool} {n : Nat} (x : h.SetOf (IK w) a f n) : h.SetOf (IK w') a f n := x
theorem set_grown {w : World} {h h' : Heap} {a : Addr} {f : Int → Bool} {n : Nat} (x : h.SetOf (IK w) a f n) (k : Grown h h') : h'.SetOf (IK w) a f n :=
  by obtain ⟨o, es, ep, t, ho, r⟩ := x; exact ⟨o, es, ep, t, k _ _ ho, r⟩
theorem in_set {w : World} {h : Heap} {a : Addr} {f : Int → Bool} {n : Nat} {p : Nat → Bool} (x : h.SetOf (IK w) a f n) (hp : ∀ c : Nat, f (c : Int) = p c) : InSet h a p := by
  intro w' A E s Q c t hk R hc hQ
  refine wpAny_inSet_of (is_int w' (c : Int) t) rfl (set_grown (set_world (w' := w') x) hk) ?_
  rw [hp]
  exact hQ s.heap _ fun _ _ e => e
theorem range_any (a n c : Nat) : (rangeL a n).any (· == (c : Int)) = decide (a ≤ c ∧ c < a + n) := by
  rw [Bool.eq_iff_iff, List.any_eq_true, decide_eq_true_eq]
  unfold rangeL
  constructor
  · rintro ⟨z, hz, e⟩
    obtain ⟨i, hi, rfl⟩ := List.mem_map.mp hz
    rw [List.mem_range'_1] at hi
    have := beq_iff_eq.mp e
    omega
  · rintro ⟨h1, h2⟩
    exact ⟨(c : Int), List.mem_map.mpr ⟨c - a, List.mem_range'_1.mpr (by omega), by omega⟩, by simp⟩
noncomputable def b1Cs : List (Int × Pos) := match stm 5 with
  | .Assign _ (.Call _ [.BinOp (.List es _) _ _ _] _ _) _ => es.filterMap fun e => match e with
    | .Constant (.int i) _ p => some (i, p)
    | _ => none
  | _ => []
noncomputable def c9Cs : List (Int × Pos) := match stm 9 with
  | .Assign _ (.Call _ [.BinOp (.List es _) _ _ _] _ _) _ => es.filterMap fun e => match e with
    | .Constant (.int i) _ p => some (i, p)
    | _ => none
  | _ => []
theorem any_cast (c : Nat) : ∀ l : List Nat, (l.map fun n : Nat => (n : Int)).any (· == (c : Int)) = l.contains c := by
  intro l
  induction l with
  | nil => rfl
  | cons a r ih =>
    rw [List.map_cons, List.any_cons, ih, List.contains_cons]
    congr 1
    by_cases h : a = c
    · subst h; rw [beq_self_eq_true, beq_self_eq_true]
    · rw [show ((a : Int) == (c : Int)) = false from beq_eq_false_iff_ne.mpr fun q => h (Int.ofNat.inj q), show (c == a) = false from beq_eq_false_iff_ne.mpr fun q => h q.symm]
theorem b1_mem (c : Nat) : (b1Cs.map (·.1) ++ rangeL 65024 16).any (· == (c : Int)) = b1b c := by
  have e : b1Cs.map (·.1) = ([173, 847, 6150, 6155, 6156, 6157, 8203, 8204, 8205, 8288, 65279] : List Nat).map fun n : Nat => (n : Int) := by decide +kernel
  rw [List.any_append, range_any, e, any_cast]
  unfold b1b
  rw [Bool.decide_and]
theorem c9_mem (c : Nat) : (c9Cs.map (·.1) ++ rangeL 917536 96).any (· == (c : Int)) = c9b c := by
  have e : c9Cs.map (·.1) = ([917505] : List Nat).map fun n : Nat => (n : Int) := by decide +kernel
  rw [List.any_append, range_any, e, any_cast]
  unfold c9b
  rw [Bool.decide_and, List.contains_cons, List.contains_nil, Bool.or_false]
end Mine

namespace Mine

structure TS (B : Heap) (c Pl : Addr) (mb : Str → Option Value) (h : Heap) (mg : Str → Option Value) (ps : Array Value) (led : List (Addr × Obj)) : Prop where
  F : Loc B mainGlobals h mg
  N : News B mainGlobals h led
  P : B.get? Pl = none
  PL : ∀ p ∈ led, p.1 ≠ Pl
  main : h.Main mg c Pl ps
  b : B.Ns builtinsNs mb

section
variable {B h h' : Heap} {c Pl : Addr} {mb mg : Str → Option Value} {ps : Array Value} {led : List (Addr × Obj)}
theorem TS.grow (T : TS B c Pl mb h mg ps led) (k : Grown h h') : TS B c Pl mb h' mg ps led :=
  ⟨T.F.grow k, News.grow' T.N k, T.P, T.PL, ⟨T.main.g.keeps k, T.main.code.keeps k, T.main.low, T.main.bmod.keeps k⟩, T.b⟩
theorem TS.store {x : Str} {v : Value} (T : TS B c Pl mb h mg ps led) (hn : h'.Ns mainGlobals (upd mg x v)) (hs : Heap.SameBut mainGlobals h h') (hx : ("__builtins__" : Str) ≠ x) : TS B c Pl mb h' (upd mg x v) ps led := by
  refine ⟨T.F.set hn hs, T.N.set hs, T.P, T.PL, ⟨hn, T.main.code.sameBut hs (Nat.ne_of_gt T.main.low.1) (Nat.ne_of_gt T.main.low.2), T.main.low, ?_⟩, T.b⟩
  obtain ⟨bm, o, a1, a2, a3, a4, a5, r⟩ := T.main.bmod
  exact ⟨bm, o, (upd_ne hx).trans a1, a2, a3, a4, (hs.2 _ a3).trans a5, r⟩
theorem TS.rebase (T : TS B c Pl mb h mg ps led) : ∃ B', Grown B B' ∧ TS B' c Pl mb h mg ps led ∧ ∀ b o, h.get? b = some o → b ≠ mainGlobals → b ≠ Pl → (∀ p ∈ led, p.1 ≠ b) → B'.get? b = some o := by
  have key : ∀ b o, h.get? b = some o → b ≠ mainGlobals → b ≠ Pl → (∀ p ∈ led, p.1 ≠ b) → (hideL h (mainGlobals :: Pl :: led.map (·.1))).get? b = some o := fun b o e h1 h2 h3 => by
    rw [hideL_out _ _ _ fun q => ?_]
    · exact e
    · rcases List.mem_cons.mp q with q | q
      · exact h1 q
      rcases List.mem_cons.mp q with q | q
      · exact h2 q
      · obtain ⟨p, hp, q⟩ := List.mem_map.mp q
        exact h3 p hp q
  have hg : Grown B (hideL h (mainGlobals :: Pl :: led.map (·.1))) := fun b o e => key b o (T.F.keep b o e) (fun q => by rw [q, T.F.free] at e; cases e) (fun q => by rw [q, T.P] at e; cases e) fun p hp q => by
    rw [← q, (T.N p hp).2.2] at e; cases e
  exact ⟨hideL h (mainGlobals :: Pl :: led.map (·.1)), hg, ⟨⟨T.F.ns, fun b o e => hideL_of _ _ _ _ e, hideL_in _ _ _ (.head _)⟩,
    fun p hp => ⟨(T.N p hp).1, (T.N p hp).2.1, hideL_in _ _ _ (.tail _ (.tail _ (List.mem_map_of_mem hp)))⟩, hideL_in _ _ _ (.tail _ (.head _)), T.PL, T.main, T.b.keeps hg⟩, key⟩
theorem TS.drop {p : Addr × Obj} (T : TS B c Pl mb h mg ps (p :: led)) : TS B c Pl mb h mg ps led := ⟨T.F, T.N.tail', T.P, fun q hq => T.PL q (.tail _ hq), T.main, T.b⟩
theorem TS.lt (T : TS B c Pl mb h mg ps led) : @LT.lt Nat _ mainGlobals h.objs.size := T.F.ns.lt
end

section
variable {w : World} {A : Around} {E : Value → Shared → Prop} {s : Shared} {c Pl Fm : Addr} {B : Heap} {mg mb : Str → Option Value} {ps : Array Value} {led : List (Addr × Obj)}

theorem top_store {x : Str} {v : Value} {Q : Unit → Shared → Prop} (T : TS B c Pl mb s.heap mg ps led) (h : ∀ h' tk, TS B c Pl mb h' (upd mg x v) ps led → Q () { s with heap := h', toks := tk })
    (hx : ("__builtins__" : Str) ≠ x := by decide) (hl : (envM c Fm).kindOf x = some .local := by rfl) :
    wpAny (model P0 w) A (storeName (envM c Fm) x v) Q E s :=
  wpAny_storeName_local hl T.F.ns (fun h' hn hs => h h' _ (T.store hn hs hx)) (by rfl)

theorem TS.after {h' : Heap} {mg' : Str → Option Value} {ps' : Array Value} (T : TS B c Pl mb s.heap mg ps led) (hm : h'.Main mg' c Pl ps') (k : ∀ b o, b ≠ Pl → b ≠ mainGlobals → s.heap.get? b = some o → h'.get? b = some o) : TS B c Pl mb h' mg' ps' led :=
  ⟨⟨hm.g, fun b o e => k b o (fun q => by rw [q, T.P] at e; cases e) (fun q => by rw [q, T.F.free] at e; cases e) (T.F.keep b o e), T.F.free⟩,
    fun p hp => ⟨k _ _ (T.PL p hp) (T.N p hp).2.1 (T.N p hp).1, (T.N p hp).2⟩, T.P, T.PL, hm, T.b⟩

theorem TS.fresh (T : TS B c Pl mb s.heap mg ps led) {a : Addr} (ha : s.heap.objs.size ≤ a) : a ≠ mainGlobals ∧ a ≠ Pl ∧ (∀ p ∈ led, p.1 ≠ a) ∧ B.get? a = none := by
  have hn : s.heap.get? a = none := get_above ha
  refine ⟨fun q => ?_, fun q => ?_, fun p hp q => ?_, ?_⟩
  · have := T.lt; rw [← q] at this; exact absurd this (Nat.not_lt.mpr ha)
  · obtain ⟨_, hlt⟩ := T.main.code.lt
    rw [← q] at hlt; exact absurd hlt (Nat.not_lt.mpr ha)
  · rw [← q, (T.N p hp).1] at hn; cases hn
  · cases e : B.get? a with
    | none => rfl
    | some o => rw [T.F.keep _ _ e] at hn; cases hn

theorem def_stmt {i : Nat} {nm : Str} {pos : Pos} {Q : Flow → Shared → Prop} (T : TS B c Pl mb s.heap mg ps led) (hexec : PlainDefTree nm (par i) (body i) (sco i) pos)
    (hfree : ∀ x ∈ (sco i).names, x.2 ≠ .free) (hdoc : docOf (body i) = none) (hloc : P0.main.scope.names.lookup nm = some .local)
    (hq : qualnameIn { scope := P0.main.scope, locals := mainGlobals, globals := mainGlobals, cells := [] } nm nm = nm) (hnb : nm ≠ "__builtins__") (hnf : codeAmong pos ps.toList = none)
    (h : ∀ B' h' tk a c' P', Grown B B' → TS B' c Pl mb h' (upd mg nm (.ref a)) (ps ++ #[rawInt pos.line, rawInt pos.col, .ref c']) ((P', tabObj #[]) :: led) → FnC B' a i nm c' → CodeHd B' c' P' → (∀ p ∈ led, p.1 ≠ P') → Q .next { s with heap := h', toks := tk }) :
    wpAny (model P0 w) A (exec (.FunctionDef nm (par i) (body i) [] none [] (sco i) none nm pos) (envM c Fm)) Q E s := by
  refine wpAny_plainDefN hexec hfree hdoc hloc hq T.main (fun a c' h' tk ha hm hfn x y k => ?_) hnb rfl hnf
  obtain ⟨hc', hrec⟩ := x
  obtain ⟨P', hP', hi, ht⟩ := y
  have T' : TS B c Pl mb h' (upd mg nm (.ref a)) _ led := T.after hm k
  obtain ⟨p1, p2, p3, p4⟩ := T.fresh hP'
  have T₂ : TS B c Pl mb h' (upd mg nm (.ref a)) (ps ++ #[rawInt pos.line, rawInt pos.col, .ref c']) ((P', tabObj #[]) :: led) := by
    refine ⟨T'.F, fun p hp => ?_, T'.P, fun p hp => ?_, T'.main, T'.b⟩
    · rcases List.mem_cons.mp hp with rfl | hp
      · exact ⟨ht.2, p1, p4⟩
      · exact T'.N p hp
    · rcases List.mem_cons.mp hp with rfl | hp
      · exact p2
      · exact T'.PL p hp
  obtain ⟨B', g, T₃, hin⟩ := T₂.rebase
  obtain ⟨a1, a2, a3, a4⟩ := T.fresh ha
  obtain ⟨c1, c2, c3, c4⟩ := T.fresh hc'
  have hfnB := hin _ _ hfn a1 a2 (fun p hp => by
    rcases List.mem_cons.mp hp with rfl | hp
    · intro q
      have e := ht.2
      rw [show P' = a from q, hfn] at e
      cases e
    · exact a3 p hp)
  obtain ⟨o, vs, file, tf, flags, tg, inF, text, tt, e1, e2⟩ := CodeHd.of hi ht
  have hcB := hin _ _ e1 c1 c2 (fun p hp => by
    rcases List.mem_cons.mp hp with rfl | hp
    · intro q
      have e := ht.2
      rw [show P' = c' from q, e1] at e
      have := Option.some.inj e
      rw [this] at e2
      cases e2.1
    · exact c3 p hp)
  refine h B' h' tk a c' P' g T₃ ⟨_, .none, hfnB, ?_⟩ ⟨o, vs, file, tf, flags, tg, inF, text, tt, hcB, e2⟩ p3
  obtain ⟨c₂, o₂, vs₂, t₂, e₂, g₂, r₂⟩ := hrec
  cases e₂
  rw [e1] at g₂
  cases g₂
  exact ⟨_, _, vs₂, t₂, rfl, hcB, r₂⟩
end
end Mine

namespace Mine
section
variable {w : World} {A : Around} {E : Value → Shared → Prop} {s : Shared} {c Pl Fm : Addr} {B : Heap} {mg mb : Str → Option Value} {ps : Array Value} {led : List (Addr × Obj)}

theorem bis_stmt {i : Nat} {nm : Str} {pos p1 p2 p3 p4 : Pos} {Q : Flow → Shared → Prop} (T : TS B c Pl mb s.heap mg ps led)
    (hd : (par i).defaults = [.Constant (.int 0) 0 p1, .Constant .none 0 p2]) (hko : (par i).kwonlyargs = [{ arg := "key", annotation := none, pos := p4 }]) (hk : (par i).kw_defaults = [some (.Constant .none 0 p3)]) (hann : annTrees (par i) none (envM c Fm) = [])
    (hfree : ∀ x ∈ (sco i).names, x.2 ≠ .free) (hloc : P0.main.scope.names.lookup nm = some .local)
    (hq : qualnameIn { scope := P0.main.scope, locals := mainGlobals, globals := mainGlobals, cells := [] } nm nm = nm) (hnb : ("__builtins__" : Str) ≠ nm) (hnf : codeAmong pos ps.toList = none)
    (h : ∀ B' h' tk a c' dV kV, Grown B B' → TS B' c Pl mb h' (upd mg nm (.ref a)) (ps ++ #[rawInt pos.line, rawInt pos.col, .ref c']) led → FnIs B' a i nm dV kV → BisDflt B' dV kV → Q .next { s with heap := h', toks := tk }) :
    wpAny (model P0 w) A (exec (.FunctionDef nm (par i) (body i) [] none [] (sco i) none nm pos) (envM c Fm)) Q E s := by
  have hq' : qualnameIn (envM c Fm) nm nm = nm := hq
  rw [exec_def, hq', defaultsOf_eq, hann, hk, hd]
  refine wpAny_bind (wpAny_standAt (wpAny_bind (wpAny_holding ?_)))
  refine wpAny_bind (m := evalAll [eval (.Constant (.int 0) 0 p1) (envM c Fm), eval (.Constant .none 0 p2) (envM c Fm)]) ?_
  refine wpAny_bind (wpAny_Constant_int (env := envM c Fm) (pos := p1) (k := 0) (wpAny_bind (wpAny_holding (wpAny_bind (wpAny_Constant_none (env := envM c Fm) (pos := p2) (k := 0) (wpAny_bind (wpAny_holding (wpAny_pure (wpAny_pure (wpAny_pure ?_))))))))))
  refine wpAny_bind (wpAny_holding ?_)
  refine wpAny_bind (m := eval (.Constant .none 0 p3) (envM c Fm)) ?_
  refine wpAny_Constant_none (env := envM c Fm) (pos := p3) (k := 0) (wpAny_bind (wpAny_holding (wpAny_pure (wpAny_pure ?_))))
  refine wpAny_holding ?_
  refine wpAny_bind (wpAny_pure ?_)
  rw [makeFunction_eq, hko]
  generalize hs1 : ({ s with toks := s.toks + 1 } : Shared) = s1
  have e1 : s1.heap = s.heap := by rw [← hs1]
  have e2 : s1.gens = s.gens ∧ s1.drawn = s.drawn ∧ s1.os = s.os := by rw [← hs1]; exact ⟨rfl, rfl, rfl⟩
  refine wpAny_bind (wpAny_newTextTuple ?_)
  generalize hT : (s1.heap.push { cls := .type "tuple", data := .seq #[.int 0 s.toks, .none] } : Heap) = hT1
  refine wpAny_bind (wpAny_alloc (wpAny_bind (wpAny_forIn_nsSet hT1.objs.size _ id (fun _ _ => rfl) [(("key" : Str), Value.none)] (fun _ => none) (Heap.Ns.new hT1 (.type "dict")) _ fun h₂ hn₂ hs₂ => wpAny_bind (wpAny_pure ?_))))
  refine wpAny_bind (wpAny_pure ?_)
  have hTg : Grown s.heap hT1 := by rw [← e1, ← hT]; exact Grown.push _ _
  have hTsz : hT1.objs.size = s.heap.objs.size + 1 := by rw [← hT, Heap.size_push, e1]
  have hTT : hT1.get? s.heap.objs.size = some { cls := .type "tuple", data := .seq #[.int 0 s.toks, .none] } := by rw [← hT, ← e1]; exact Heap.get?_push_size _ rfl
  have g2 : Grown hT1 h₂ := fun b o e => hs₂.extBut b o (Nat.ne_of_lt (Heap.lt_size e)) (Heap.get?_push_of_some _ e)
  have h2sz : h₂.objs.size = s.heap.objs.size + 2 := by rw [hs₂.1, Heap.size_push, hTsz]
  have T₂ := T.grow (Grown.trans hTg g2)
  refine wpAny_makeTail (mg := mg) hfree T₂.main.g rfl T₂.main.code hnf (Nat.ne_of_lt T.main.low.2) T₂.main.bmod fun c' doc h₃ tk₃ hx₃ hge hlt hok hrec => ?_
  dsimp only at hx₃ hge hlt hok ⊢
  refine wpAny_bind (wpAny_standAt (wpAny_bind (wpAny_bindName (wpAny_storeName_local (env := envM c Fm) hloc ((T₂.main.g.extBut hx₃ (Nat.ne_of_lt T.main.low.2)).push _) (fun h₄ hg₄ hs₄ => wpAny_pure ?_) (by rfl)))))
  dsimp only at hg₄ hs₄ ⊢
  have hG := T.lt
  have ha : @LE.le Nat _ s.heap.objs.size h₃.objs.size := by
    have h1 : @LE.le Nat _ h₂.objs.size c' := hge
    have h2 : @LT.lt Nat _ c' h₃.objs.size := hlt
    omega
  have hc' : @LE.le Nat _ s.heap.objs.size c' := by
    have h1 : @LE.le Nat _ h₂.objs.size c' := hge
    omega
  have keep : ∀ b o, b ≠ Pl → b ≠ mainGlobals → h₂.get? b = some o → h₄.get? b = some o := fun b o hbP hbG e => (hs₄.2 _ hbG).trans (Heap.get?_push_of_some _ (hx₃ _ _ hbP e))
  have hm' : h₄.Main (upd mg nm (.ref h₃.objs.size)) c Pl (ps ++ #[rawInt pos.line, rawInt pos.col, .ref c']) := by
    refine ⟨hg₄, (hok.push _).sameBut hs₄ (Nat.ne_of_gt T.main.low.1) (Nat.ne_of_gt T.main.low.2), T.main.low, ?_⟩
    obtain ⟨bm, o, a1, a2, a3, a4, a5, r⟩ := T₂.main.bmod
    exact ⟨bm, o, (upd_ne hnb).trans a1, a2, a3, a4, keep _ _ a4 a3 a5, r⟩
  have T' := T₂.after (s := { s with heap := h₂ }) hm' keep
  obtain ⟨B', g, T₃, hin⟩ := T'.rebase
  obtain ⟨f1, f2, f3, f4⟩ := T.fresh ha
  obtain ⟨c1, c2, c3, c4⟩ := T.fresh hc'
  obtain ⟨t1, t2, t3, t4⟩ := T.fresh (a := s.heap.objs.size) (Nat.le_refl _)
  obtain ⟨d1, d2, d3, d4⟩ := T.fresh (a := hT1.objs.size) (by show @LE.le Nat _ _ _; omega)
  have hfn := (hs₄.2 _ f1).trans (Heap.get?_push_size h₃ (o := { cls := .type "function", data := .func (defFd nm nm (par i) (body i) (sco i) mainGlobals (.ref s1.heap.objs.size) (.ref hT1.objs.size) none ((mg "__name__").getD .none) (.ref c') doc) }) rfl)
  rw [e1] at hfn
  obtain ⟨oD, es, ep, hoD, hD⟩ := hn₂
  obtain ⟨c₂, o₂, vs₂, t₂', e₂, g₂, r₂⟩ := hrec
  cases e₂
  have hcB := hin _ _ ((hs₄.2 _ c1).trans (Heap.get?_push_of_some _ g₂)) c1 c2 c3
  have := h B' h₄ (tk₃ + 1) h₃.objs.size c' (.ref s.heap.objs.size) (.ref hT1.objs.size) g T₃ ⟨_, c', doc, hin _ _ hfn f1 f2 f3, c', o₂, vs₂, t₂', rfl, hcB, r₂⟩
    ⟨s.heap.objs.size, hT1.objs.size, s.toks, _, _, _, rfl, rfl, hin _ _ (keep _ _ t2 t1 (g2 _ _ hTT)) t1 t2 t3, rfl, ⟨oD, es, ep, hin _ _ (keep _ _ d2 d1 hoD) d1 d2 d3, hD⟩, rfl⟩
  rw [e2.1, e2.2.1, e2.2.2]
  exact this
end
end Mine

namespace Mine

noncomputable def b1Es : List Expr := match stm 5 with
  | .Assign _ (.Call _ [.BinOp (.List es _) _ _ _] _ _) _ => es
  | _ => []
noncomputable def c9Es : List Expr := match stm 9 with
  | .Assign _ (.Call _ [.BinOp (.List es _) _ _ _] _ _) _ => es
  | _ => []
theorem stm_5 : ∃ p q p1 p2 p3 p4 p5 p6 p7 p8 p9 p10, stm 5 = .Assign [.Name "b1_set" p] (.Call (.Name "set" p1) [.BinOp (.List b1Es p2) .Add (.Call (.Name "list" p3) [.Call (.Name "range" p4) [.Constant (.int 65024) 0 p5, .Constant (.int 65040) 0 p6] [] p7] [] p8) p9] [] p10) q :=
  ⟨_, _, _, _, _, _, _, _, _, _, _, _, rfl⟩
theorem stm_9 : ∃ p q p1 p2 p3 p4 p5 p6 p7 p8 p9 p10, stm 9 = .Assign [.Name "c9_set" p] (.Call (.Name "set" p1) [.BinOp (.List c9Es p2) .Add (.Call (.Name "list" p3) [.Call (.Name "range" p4) [.Constant (.int 917536) 0 p5, .Constant (.int 917632) 0 p6] [] p7] [] p8) p9] [] p10) q :=
  ⟨_, _, _, _, _, _, _, _, _, _, _, _, rfl⟩
theorem stm_7 : ∃ p p2 q, stm 7 = .Assign [.Name "b3_exceptions" p] (.Dict dKeys dVals p2) q := ⟨_, _, _, rfl⟩
theorem stm_12 : ∃ p p2 q, stm 12 = .Assign [.Name "ENDMARKER" p] (.Constant (.int 0) 0 p2) q := ⟨_, _, _, rfl⟩
theorem stm_13 : ∃ p p2 q, stm 13 = .Assign [.Name "NT_OFFSET" p] (.Constant (.int 256) 0 p2) q := ⟨_, _, _, rfl⟩
theorem stm_0 : ∃ p p2 x q, stm 0 = .Assign [.Name "__name__" p] (.Constant (.str x) 0 p2) q := ⟨_, _, _, _, rfl⟩
theorem stm_4 : ∃ p p2 x q, stm 4 = .Assign [.Name "__name__" p] (.Constant (.str x) 0 p2) q := ⟨_, _, _, _, rfl⟩
theorem stm_11 : ∃ p p2 x q, stm 11 = .Assign [.Name "__name__" p] (.Constant (.str x) 0 p2) q := ⟨_, _, _, _, rfl⟩
theorem stm_16 : ∃ p p2 x q, stm 16 = .Assign [.Name "__name__" p] (.Constant (.str x) 0 p2) q := ⟨_, _, _, _, rfl⟩
theorem b1Es_eq : b1Es = b1Cs.map cInI := rfl
theorem c9Es_eq : c9Es = c9Cs.map cInI := rfl

section
variable {w : World} {A : Around} {E : Value → Shared → Prop} {s : Shared} {c Pl Fm : Addr} {B : Heap} {mg mb : Str → Option Value} {ps : Array Value} {led : List (Addr × Obj)}

theorem dsB3_ne' : dsB3 ≠ [] := fun q => by
  have h := dsB3_ne
  rw [q] at h
  exact Bool.noConfusion h
theorem asg_dict {env : Env} {x : Str} {pos' p pos : Pos} {ks : List (Option Expr)} {vs : List Expr} {Q : Flow → Shared → Prop} (h : wpAny (model P0 w) A (eval (.Dict ks vs p) env) (fun v s₁ => wpAny (model P0 w) A (storeName env x v) (fun _ => Q .next) E s₁) E s) :
    wpAny (model P0 w) A (exec (.Assign [.Name x pos'] (.Dict ks vs p) pos) env) Q E s := wpAny_Assign_Name h
theorem set_keep {B h : Heap} {S : Addr} {f : Int → Bool} {k : Nat} (x : h.SetOf (IK w) S f k) (hin : ∀ o, h.get? S = some o → B.get? S = some o) : B.SetOf (IK w) S f k :=
  by obtain ⟨o, es, ep, t, ho, r⟩ := x; exact ⟨o, es, ep, t, hin _ ho, r⟩

theorem TS.fresh' (T : TS B c Pl mb s.heap mg ps led) {a : Addr} (hn : s.heap.get? a = none) : a ≠ mainGlobals ∧ (∀ p ∈ led, p.1 ≠ a) := by
  refine ⟨fun q => ?_, fun p hp q => ?_⟩
  · obtain ⟨oL, _, _, hL, _⟩ := T.F.ns
    rw [q, hL] at hn; cases hn
  · rw [← q, (T.N p hp).1] at hn; cases hn

theorem name_stmt {st : Stmt} {Q : Flow → Shared → Prop} (T : TS B c Pl mb s.heap mg ps led) (e : ∃ p p2 x q, st = .Assign [.Name "__name__" p] (.Constant (.str x) 0 p2) q)
    (h : ∀ h' tk v, TS B c Pl mb h' (upd mg "__name__" v) ps led → Q .next { s with heap := h', toks := tk }) : wpAny (model P0 w) A (exec st (envM c Fm)) Q E s := by
  obtain ⟨p, p2, x, q, rfl⟩ := e
  exact wpAny_Assign_Name (wpAny_Constant_str (top_store (by exact T) fun h' tk T' => h h' tk _ T'))
theorem int_stmt {st : Stmt} {nm : Str} {z : Int} {Q : Flow → Shared → Prop} (T : TS B c Pl mb s.heap mg ps led) (e : ∃ p p2 q, st = .Assign [.Name nm p] (.Constant (.int z) 0 p2) q) (hx : ("__builtins__" : Str) ≠ nm) (hl : (envM c Fm).kindOf nm = some .local)
    (h : ∀ h' tk t, TS B c Pl mb h' (upd mg nm (.int z t)) ps led → Q .next { s with heap := h', toks := tk }) : wpAny (model P0 w) A (exec st (envM c Fm)) Q E s := by
  obtain ⟨p, p2, q, rfl⟩ := e
  exact wpAny_Assign_Name (wpAny_Constant_int (top_store (by exact T) (fun h' tk T' => h h' tk _ T') hx hl))

theorem b1_stmt {Q : Flow → Shared → Prop} (T : TS B c Pl mb s.heap mg ps led) (hh : A.handled = none) (hB : ∀ x : Str, x ≠ "__name__" → mb x = bootBuiltins x) (m1 : mg "set" = none) (m2 : mg "list" = none) (m3 : mg "range" = none)
    (h : ∀ B' h' tk S, Grown B B' → TS B' c Pl mb h' (upd mg "b1_set" (.ref S)) ps led → InSet B' S b1b → Q .next { s with heap := h', toks := tk }) : wpAny (model P0 w) A (exec (stm 5) (envM c Fm)) Q E s := by
  obtain ⟨p, q, p1, p2, p3, p4, p5, p6, p7, p8, p9, p10, e⟩ := stm_5
  rw [e]
  refine wpAny_Assign_Name ?_
  refine set_eval (a := 65024) (n := 16) rfl rfl hh T.F T.b hB m1 m2 m3 b1Es_eq (by decide) (by decide) (by decide) fun h₁ tk₁ S k g₁ nS hS => ?_
  obtain ⟨B', g, T', hin⟩ := (T.grow g₁).rebase
  obtain ⟨f1, f2⟩ := T.fresh' nS
  have f3 : S ≠ Pl := fun q => by
    obtain ⟨_, hlt⟩ := T.main.code.lt
    obtain ⟨_, _, _, _, _, _, _, _, _, op, _, _, _, _, _, _, _, hop, _⟩ := T.main.code
    rw [q, hop] at nS; cases nS
  have hS' := set_keep (B := B') hS fun o ho => hin _ _ ho f1 f3 f2
  exact top_store (s := { s with heap := h₁, toks := tk₁ }) T' fun h₂ tk₂ T₂ => h B' h₂ tk₂ S g T₂ (in_set hS' b1_mem)
theorem c9_stmt {Q : Flow → Shared → Prop} (T : TS B c Pl mb s.heap mg ps led) (hh : A.handled = none) (hB : ∀ x : Str, x ≠ "__name__" → mb x = bootBuiltins x) (m1 : mg "set" = none) (m2 : mg "list" = none) (m3 : mg "range" = none)
    (h : ∀ B' h' tk S, Grown B B' → TS B' c Pl mb h' (upd mg "c9_set" (.ref S)) ps led → InSet B' S c9b → Q .next { s with heap := h', toks := tk }) : wpAny (model P0 w) A (exec (stm 9) (envM c Fm)) Q E s := by
  obtain ⟨p, q, p1, p2, p3, p4, p5, p6, p7, p8, p9, p10, e⟩ := stm_9
  rw [e]
  refine wpAny_Assign_Name ?_
  refine set_eval (a := 917536) (n := 96) rfl rfl hh T.F T.b hB m1 m2 m3 c9Es_eq (by decide) (by decide) (by decide) fun h₁ tk₁ S k g₁ nS hS => ?_
  obtain ⟨B', g, T', hin⟩ := (T.grow g₁).rebase
  obtain ⟨f1, f2⟩ := T.fresh' nS
  have f3 : S ≠ Pl := fun q => by
    obtain ⟨_, _, _, _, _, _, _, _, _, op, _, _, _, _, _, _, _, hop, _⟩ := T.main.code
    rw [q, hop] at nS; cases nS
  have hS' := set_keep (B := B') hS fun o ho => hin _ _ ho f1 f3 f2
  exact top_store (s := { s with heap := h₁, toks := tk₁ }) T' fun h₂ tk₂ T₂ => h B' h₂ tk₂ S g T₂ (in_set hS' c9_mem)
theorem b3_gen {keys : List (Option Expr)} {values : List Expr} {ds : List (Int × Str)} {p p2 q : Pos} {Q : Flow → Shared → Prop} (hl : litsOf keys values = some ds) (ha : ascI ds = true) (hz : ds.length < 1000000) (h0 : ds ≠ [])
    (hG : (b3L.all fun p => decide ((ds.find? fun d => decide (d.1 = (p.1 : Int))).map (·.2) = p.2.map fun x => S x)) = true) (T : TS B c Pl mb s.heap mg ps led) (hsys : @LT.lt Nat _ sysModules s.heap.objs.size)
    (h : ∀ B' h' tk S, Grown B B' → TS B' c Pl mb h' (upd mg "b3_exceptions" (.ref S)) ps led → (∃ o, B'.get? S = some o ∧ o.cls = .type "dict" ∧ o.dict = none) → GetsOf B' S → Q .next { s with heap := h', toks := tk }) :
    wpAny (model P0 w) A (exec (.Assign [.Name "b3_exceptions" p] (.Dict keys values p2) q) (envM c Fm)) Q E s := by
  refine asg_dict ?_
  refine dict_eval hl ha hz h0 hsys fun h₁ tk₁ S kvs hv hd g₁ hge => ?_
  obtain ⟨B', g, T', hin⟩ := (T.grow g₁).rebase
  obtain ⟨f1, f3, f2, _⟩ := T.fresh hge
  have hd' : B'.DictOf (IK w) S kvs := by obtain ⟨o, es, ep, ho, r⟩ := hd; exact ⟨o, es, ep, hin _ _ ho f1 f3 f2, r⟩
  have hne : S ≠ sysModules := Nat.ne_of_gt (Nat.lt_of_lt_of_le hsys hge)
  refine top_store (s := { s with heap := h₁, toks := tk₁ }) T' fun h₂ tk₂ T₂ => h B' h₂ tk₂ S g T₂ ?_ (gets_of hG hv hd' hne)
  obtain ⟨o, es, ep, ho, hx, _⟩ := hd'
  exact ⟨o, ho, hx.1, hx.2.1⟩
theorem b3_of {st : Stmt} {keys : List (Option Expr)} {values : List Expr} {ds : List (Int × Str)} {Q : Flow → Shared → Prop} (e : ∃ p p2 q, st = .Assign [.Name "b3_exceptions" p] (.Dict keys values p2) q) (hl : litsOf keys values = some ds) (ha : ascI ds = true) (hz : ds.length < 1000000) (h0 : ds ≠ [])
    (hG : (b3L.all fun p => decide ((ds.find? fun d => decide (d.1 = (p.1 : Int))).map (·.2) = p.2.map fun x => S x)) = true) (T : TS B c Pl mb s.heap mg ps led) (hsys : @LT.lt Nat _ sysModules s.heap.objs.size)
    (h : ∀ B' h' tk S, Grown B B' → TS B' c Pl mb h' (upd mg "b3_exceptions" (.ref S)) ps led → (∃ o, B'.get? S = some o ∧ o.cls = .type "dict" ∧ o.dict = none) → GetsOf B' S → Q .next { s with heap := h', toks := tk }) :
    wpAny (model P0 w) A (exec st (envM c Fm)) Q E s := by
  obtain ⟨p, p2, q, rfl⟩ := e
  exact b3_gen hl ha hz h0 hG T hsys h
end
theorem b3_has : ∃ (st : Stmt) (keys : List (Option Expr)) (values : List Expr) (ds : List (Int × Str)), st = stm 7 ∧ (∃ p p2 q, st = .Assign [.Name "b3_exceptions" p] (.Dict keys values p2) q) ∧ litsOf keys values = some ds ∧ ascI ds = true ∧ ds.length < 1000000 ∧ ds ≠ [] ∧ (b3L.all fun p => decide ((ds.find? fun d => decide (d.1 = (p.1 : Int))).map (·.2) = p.2.map fun x => S x)) = true :=
  ⟨stm 7, dKeys, dVals, dsB3, rfl, stm_7, dsB3_eq, dsB3_asc, dsB3_len, dsB3_ne', dsB3_get⟩
section
variable {w : World} {A : Around} {E : Value → Shared → Prop} {s : Shared} {c Pl Fm : Addr} {B : Heap} {mg mb : Str → Option Value} {ps : Array Value} {led : List (Addr × Obj)}
theorem b3_stmt {st : Stmt} {Q : Flow → Shared → Prop} (hst : stm 7 = st) (T : TS B c Pl mb s.heap mg ps led) (hsys : @LT.lt Nat _ sysModules s.heap.objs.size)
    (h : ∀ B' h' tk S, Grown B B' → TS B' c Pl mb h' (upd mg "b3_exceptions" (.ref S)) ps led → (∃ o, B'.get? S = some o ∧ o.cls = .type "dict" ∧ o.dict = none) → GetsOf B' S → Q .next { s with heap := h', toks := tk }) : wpAny (model P0 w) A (exec st (envM c Fm)) Q E s := by
  obtain ⟨st', keys, values, ds, e, h1, h2, h3, h4, h5, h6⟩ := b3_has
  rw [← hst, ← e]
  exact b3_of h1 h2 h3 h4 h5 h6 T hsys h
end
end Mine

namespace Mine

inductive Frsh (n : Nat) : List Value → Prop
  | nil : Frsh n []
  | cons {l c : Int} {t u : Tok} {v : Value} {r : List Value} (h : l < n) (x : Frsh n r) : Frsh n (.int l t :: .int c u :: v :: r)
theorem Frsh.mono {n m : Nat} {l : List Value} (x : Frsh n l) (h : n ≤ m) : Frsh m l := by
  induction x with
  | nil => exact .nil
  | cons a _ ih => exact .cons (by omega) ih
theorem Frsh.none {n : Nat} {l : List Value} {pos : Pos} (x : Frsh n l) (h : n ≤ pos.line) : codeAmong pos l = none := by
  induction x with
  | nil => rfl
  | @cons a c t u v r ha _ ih =>
    unfold codeAmong
    have : (a == (pos.line : Int)) = false := by
      rw [beq_eq_false_iff_ne]
      intro q
      omega
    rw [this, Bool.false_and, if_neg Bool.false_ne_true]
    exact ih
theorem Frsh.app {n : Nat} {l : List Value} {ln cl : Nat} {v : Value} (x : Frsh n l) (h : ln < n) : Frsh n (l ++ [rawInt ln, rawInt cl, v]) := by
  induction x with
  | nil => exact .cons (by omega) .nil
  | cons a _ ih => exact .cons a ih
theorem Frsh.add {n : Nat} {ps : Array Value} {pos : Pos} {v : Value} (x : Frsh n ps.toList) (h : n ≤ pos.line) : Frsh (pos.line + 1) (ps ++ #[rawInt pos.line, rawInt pos.col, v]).toList := by
  rw [Array.toList_append]
  exact (x.mono (by omega)).app (by omega)

structure Upd1 (m : Str → Option Value) (x : Str) (v : Value) (m' : Str → Option Value) : Prop where
  self : m' x = some v
  keep : ∀ y, y ≠ x → m' y = m y
theorem upd1 (m : Str → Option Value) (x : Str) (v : Value) : Upd1 m x v (upd m x v) := ⟨upd_self, fun _ h => upd_ne h⟩
theorem Upd1.ext {m m₁ m' : Str → Option Value} {x : Str} {v : Value} {l : List Str} (u : Upd1 m x v m₁) (r : ∀ y, y ∉ l → m' y = m₁ y) : ∀ y, y ∉ x :: l → m' y = m y := fun y hy =>
  (r y fun q => hy (.tail _ q)).trans (u.keep y fun q => hy (q ▸ .head _))

section
variable {w : World} {A : Around} {E : Value → Shared → Prop} {s : Shared} {c Pl Fm : Addr} {B : Heap} {mg mb : Str → Option Value} {ps : Array Value} {led : List (Addr × Obj)} {k : Nat}

theorem stm_1 : stm 1 = .FunctionDef "insort_right" (par 1) (body 1) [] none [] (sco 1) none "insort_right" ⟨2, 0, 7, 19⟩ := rfl
theorem top_1 {Q : Flow → Shared → Prop} (T : TS B c Pl mb s.heap mg ps led) (hp : Frsh k ps.toList) (hk : k ≤ 2)
    (h : ∀ B' h' tk a ps' dV kV mg', Upd1 mg "insort_right" (.ref a) mg' → Grown B B' → TS B' c Pl mb h' mg' ps' led → Frsh 3 ps'.toList → FnIs B' a 1 "insort_right" dV kV → BisDflt B' dV kV → Q .next { s with heap := h', toks := tk }) :
    wpAny (model P0 w) A (exec (stm 1) (envM c Fm)) Q E s := by
  rw [stm_1]
  refine bis_stmt (i := 1) (nm := "insort_right") (pos := ⟨2, 0, 7, 19⟩) T rfl rfl rfl rfl (by decide) rfl rfl (by decide) (hp.none hk) fun B' h' tk a c' dV kV g T' f d => ?_
  exact h B' h' tk a _ dV kV _ (upd1 _ _ _) g T' (hp.add (pos := ⟨2, 0, 7, 19⟩) hk) f d

theorem stm_2 : stm 2 = .FunctionDef "bisect_right" (par 2) (body 2) [] none [] (sco 2) none "bisect_right" ⟨8, 0, 27, 13⟩ := rfl
theorem top_2 {Q : Flow → Shared → Prop} (T : TS B c Pl mb s.heap mg ps led) (hp : Frsh k ps.toList) (hk : k ≤ 8)
    (h : ∀ B' h' tk a ps' dV kV mg', Upd1 mg "bisect_right" (.ref a) mg' → Grown B B' → TS B' c Pl mb h' mg' ps' led → Frsh 9 ps'.toList → FnIs B' a 2 "bisect_right" dV kV → BisDflt B' dV kV → Q .next { s with heap := h', toks := tk }) :
    wpAny (model P0 w) A (exec (stm 2) (envM c Fm)) Q E s := by
  rw [stm_2]
  refine bis_stmt (i := 2) (nm := "bisect_right") (pos := ⟨8, 0, 27, 13⟩) T rfl rfl rfl rfl (by decide) rfl rfl (by decide) (hp.none hk) fun B' h' tk a c' dV kV g T' f d => ?_
  exact h B' h' tk a _ dV kV _ (upd1 _ _ _) g T' (hp.add (pos := ⟨8, 0, 27, 13⟩) hk) f d

theorem stm_3 : stm 3 = .FunctionDef "bisect_left" (par 3) (body 3) [] none [] (sco 3) none "bisect_left" ⟨28, 0, 47, 13⟩ := rfl
theorem top_3 {Q : Flow → Shared → Prop} (T : TS B c Pl mb s.heap mg ps led) (hp : Frsh k ps.toList) (hk : k ≤ 28)
    (h : ∀ B' h' tk a ps' dV kV mg', Upd1 mg "bisect_left" (.ref a) mg' → Grown B B' → TS B' c Pl mb h' mg' ps' led → Frsh 29 ps'.toList → FnIs B' a 3 "bisect_left" dV kV → BisDflt B' dV kV → Q .next { s with heap := h', toks := tk }) :
    wpAny (model P0 w) A (exec (stm 3) (envM c Fm)) Q E s := by
  rw [stm_3]
  refine bis_stmt (i := 3) (nm := "bisect_left") (pos := ⟨28, 0, 47, 13⟩) T rfl rfl rfl rfl (by decide) rfl rfl (by decide) (hp.none hk) fun B' h' tk a c' dV kV g T' f d => ?_
  exact h B' h' tk a _ dV kV _ (upd1 _ _ _) g T' (hp.add (pos := ⟨28, 0, 47, 13⟩) hk) f d

theorem stm_6 : stm 6 = .FunctionDef "in_table_b1" (par 6) (body 6) [] none [] (sco 6) none "in_table_b1" ⟨50, 0, 51, 30⟩ := rfl
theorem top_6 {Q : Flow → Shared → Prop} (T : TS B c Pl mb s.heap mg ps led) (hp : Frsh k ps.toList) (hk : k ≤ 50)
    (h : ∀ B' h' tk a ps' mg', Upd1 mg "in_table_b1" (.ref a) mg' → Grown B B' → TS B' c Pl mb h' mg' ps' led → Frsh 51 ps'.toList → FnIs B' a 6 "in_table_b1" .none .none → Q .next { s with heap := h', toks := tk }) :
    wpAny (model P0 w) A (exec (stm 6) (envM c Fm)) Q E s := by
  rw [stm_6]
  refine def_stmt (i := 6) (nm := "in_table_b1") (pos := ⟨50, 0, 51, 30⟩) T (fun _ => rfl) (by decide) rfl rfl rfl (by decide) (hp.none hk) fun B' h' tk a c' P' g T' f d hn => ?_
  exact h B' h' tk a _ _ (upd1 _ _ _) g T'.drop (hp.add (pos := ⟨50, 0, 51, 30⟩) hk) f.is

theorem stm_8 : stm 8 = .FunctionDef "map_table_b3" (par 8) (body 8) [] none [] (sco 8) none "map_table_b3" ⟨53, 0, 57, 23⟩ := rfl
theorem top_8 {Q : Flow → Shared → Prop} (T : TS B c Pl mb s.heap mg ps led) (hp : Frsh k ps.toList) (hk : k ≤ 53)
    (h : ∀ B' h' tk a ps' mg', Upd1 mg "map_table_b3" (.ref a) mg' → Grown B B' → TS B' c Pl mb h' mg' ps' led → Frsh 54 ps'.toList → FnIs B' a 8 "map_table_b3" .none .none → Q .next { s with heap := h', toks := tk }) :
    wpAny (model P0 w) A (exec (stm 8) (envM c Fm)) Q E s := by
  rw [stm_8]
  refine def_stmt (i := 8) (nm := "map_table_b3") (pos := ⟨53, 0, 57, 23⟩) T (fun _ => rfl) (by decide) rfl rfl rfl (by decide) (hp.none hk) fun B' h' tk a c' P' g T' f d hn => ?_
  exact h B' h' tk a _ _ (upd1 _ _ _) g T'.drop (hp.add (pos := ⟨53, 0, 57, 23⟩) hk) f.is

theorem stm_10 : stm 10 = .FunctionDef "in_table_c9" (par 10) (body 10) [] none [] (sco 10) none "in_table_c9" ⟨59, 0, 60, 30⟩ := rfl
theorem top_10 {Q : Flow → Shared → Prop} (T : TS B c Pl mb s.heap mg ps led) (hp : Frsh k ps.toList) (hk : k ≤ 59)
    (h : ∀ B' h' tk a ps' mg', Upd1 mg "in_table_c9" (.ref a) mg' → Grown B B' → TS B' c Pl mb h' mg' ps' led → Frsh 60 ps'.toList → FnIs B' a 10 "in_table_c9" .none .none → Q .next { s with heap := h', toks := tk }) :
    wpAny (model P0 w) A (exec (stm 10) (envM c Fm)) Q E s := by
  rw [stm_10]
  refine def_stmt (i := 10) (nm := "in_table_c9") (pos := ⟨59, 0, 60, 30⟩) T (fun _ => rfl) (by decide) rfl rfl rfl (by decide) (hp.none hk) fun B' h' tk a c' P' g T' f d hn => ?_
  exact h B' h' tk a _ _ (upd1 _ _ _) g T'.drop (hp.add (pos := ⟨59, 0, 60, 30⟩) hk) f.is

theorem stm_14 : stm 14 = .FunctionDef "ISNONTERMINAL" (par 14) (body 14) [] none [] (sco 14) none "ISNONTERMINAL" ⟨64, 0, 65, 25⟩ := rfl
theorem top_14 {Q : Flow → Shared → Prop} (T : TS B c Pl mb s.heap mg ps led) (hp : Frsh k ps.toList) (hk : k ≤ 64)
    (h : ∀ B' h' tk a ps' mg', Upd1 mg "ISNONTERMINAL" (.ref a) mg' → Grown B B' → TS B' c Pl mb h' mg' ps' led → Frsh 65 ps'.toList → FnIs B' a 14 "ISNONTERMINAL" .none .none → Q .next { s with heap := h', toks := tk }) :
    wpAny (model P0 w) A (exec (stm 14) (envM c Fm)) Q E s := by
  rw [stm_14]
  refine def_stmt (i := 14) (nm := "ISNONTERMINAL") (pos := ⟨64, 0, 65, 25⟩) T (fun _ => rfl) (by decide) rfl rfl rfl (by decide) (hp.none hk) fun B' h' tk a c' P' g T' f d hn => ?_
  exact h B' h' tk a _ _ (upd1 _ _ _) g T'.drop (hp.add (pos := ⟨64, 0, 65, 25⟩) hk) f.is

theorem stm_15 : stm 15 = .FunctionDef "ISEOF" (par 15) (body 15) [] none [] (sco 15) none "ISEOF" ⟨66, 0, 67, 25⟩ := rfl
theorem top_15 {Q : Flow → Shared → Prop} (T : TS B c Pl mb s.heap mg ps led) (hp : Frsh k ps.toList) (hk : k ≤ 66)
    (h : ∀ B' h' tk a ps' mg', Upd1 mg "ISEOF" (.ref a) mg' → Grown B B' → TS B' c Pl mb h' mg' ps' led → Frsh 67 ps'.toList → FnIs B' a 15 "ISEOF" .none .none → Q .next { s with heap := h', toks := tk }) :
    wpAny (model P0 w) A (exec (stm 15) (envM c Fm)) Q E s := by
  rw [stm_15]
  refine def_stmt (i := 15) (nm := "ISEOF") (pos := ⟨66, 0, 67, 25⟩) T (fun _ => rfl) (by decide) rfl rfl rfl (by decide) (hp.none hk) fun B' h' tk a c' P' g T' f d hn => ?_
  exact h B' h' tk a _ _ (upd1 _ _ _) g T'.drop (hp.add (pos := ⟨66, 0, 67, 25⟩) hk) f.is

theorem stm_17 : stm 17 = .FunctionDef "_law_book" (par 17) (body 17) [] none [] (sco 17) none "_law_book" ⟨69, 0, 83, 57⟩ := rfl
theorem top_17 {Q : Flow → Shared → Prop} (T : TS B c Pl mb s.heap mg ps led) (hp : Frsh k ps.toList) (hk : k ≤ 69)
    (h : ∀ B' h' tk a ps' mg', Upd1 mg "_law_book" (.ref a) mg' → Grown B B' → TS B' c Pl mb h' mg' ps' led → Frsh 70 ps'.toList → FnIs B' a 17 "_law_book" .none .none → Q .next { s with heap := h', toks := tk }) :
    wpAny (model P0 w) A (exec (stm 17) (envM c Fm)) Q E s := by
  rw [stm_17]
  refine def_stmt (i := 17) (nm := "_law_book") (pos := ⟨69, 0, 83, 57⟩) T (fun _ => rfl) (by decide) rfl rfl rfl (by decide) (hp.none hk) fun B' h' tk a c' P' g T' f d hn => ?_
  exact h B' h' tk a _ _ (upd1 _ _ _) g T'.drop (hp.add (pos := ⟨69, 0, 83, 57⟩) hk) f.is

theorem stm_18 : stm 18 = .FunctionDef "_law_words" (par 18) (body 18) [] none [] (sco 18) none "_law_words" ⟨84, 0, 92, 38⟩ := rfl
theorem top_18 {Q : Flow → Shared → Prop} (T : TS B c Pl mb s.heap mg ps led) (hp : Frsh k ps.toList) (hk : k ≤ 84)
    (h : ∀ B' h' tk a ps' mg', Upd1 mg "_law_words" (.ref a) mg' → Grown B B' → TS B' c Pl mb h' mg' ps' led → Frsh 85 ps'.toList → FnIs B' a 18 "_law_words" .none .none → Q .next { s with heap := h', toks := tk }) :
    wpAny (model P0 w) A (exec (stm 18) (envM c Fm)) Q E s := by
  rw [stm_18]
  refine def_stmt (i := 18) (nm := "_law_words") (pos := ⟨84, 0, 92, 38⟩) T (fun _ => rfl) (by decide) rfl rfl rfl (by decide) (hp.none hk) fun B' h' tk a c' P' g T' f d hn => ?_
  exact h B' h' tk a _ _ (upd1 _ _ _) g T'.drop (hp.add (pos := ⟨84, 0, 92, 38⟩) hk) f.is

theorem stm_19 : stm 19 = .FunctionDef "_law_put" (par 19) (body 19) [] none [] (sco 19) none "_law_put" ⟨93, 0, 96, 31⟩ := rfl
theorem top_19 {Q : Flow → Shared → Prop} (T : TS B c Pl mb s.heap mg ps led) (hp : Frsh k ps.toList) (hk : k ≤ 93)
    (h : ∀ B' h' tk a ps' mg', Upd1 mg "_law_put" (.ref a) mg' → Grown B B' → TS B' c Pl mb h' mg' ps' led → Frsh 94 ps'.toList → FnIs B' a 19 "_law_put" .none .none → Q .next { s with heap := h', toks := tk }) :
    wpAny (model P0 w) A (exec (stm 19) (envM c Fm)) Q E s := by
  rw [stm_19]
  refine def_stmt (i := 19) (nm := "_law_put") (pos := ⟨93, 0, 96, 31⟩) T (fun _ => rfl) (by decide) rfl rfl rfl (by decide) (hp.none hk) fun B' h' tk a c' P' g T' f d hn => ?_
  exact h B' h' tk a _ _ (upd1 _ _ _) g T'.drop (hp.add (pos := ⟨93, 0, 96, 31⟩) hk) f.is

theorem stm_20 : stm 20 = .FunctionDef "_law_begun" (par 20) (body 20) [] none [] (sco 20) none "_law_begun" ⟨97, 0, 99, 87⟩ := rfl
theorem top_20 {Q : Flow → Shared → Prop} (T : TS B c Pl mb s.heap mg ps led) (hp : Frsh k ps.toList) (hk : k ≤ 97)
    (h : ∀ B' h' tk a ps' c' P' mg', Upd1 mg "_law_begun" (.ref a) mg' → Grown B B' → TS B' c Pl mb h' mg' ps' ((P', tabObj #[]) :: led) → Frsh 98 ps'.toList → FnC B' a 20 "_law_begun" c' → CodeHd B' c' P' → (∀ p ∈ led, p.1 ≠ P') → Q .next { s with heap := h', toks := tk }) :
    wpAny (model P0 w) A (exec (stm 20) (envM c Fm)) Q E s := by
  rw [stm_20]
  refine def_stmt (i := 20) (nm := "_law_begun") (pos := ⟨97, 0, 99, 87⟩) T (fun _ => rfl) (by decide) rfl rfl rfl (by decide) (hp.none hk) fun B' h' tk a c' P' g T' f d hn => ?_
  exact h B' h' tk a _ c' P' _ (upd1 _ _ _) g T' (hp.add (pos := ⟨97, 0, 99, 87⟩) hk) f d hn

theorem stm_21 : stm 21 = .FunctionDef "_law_wait" (par 21) (body 21) [] none [] (sco 21) none "_law_wait" ⟨100, 0, 101, 76⟩ := rfl
theorem top_21 {Q : Flow → Shared → Prop} (T : TS B c Pl mb s.heap mg ps led) (hp : Frsh k ps.toList) (hk : k ≤ 100)
    (h : ∀ B' h' tk a ps' c' P' mg', Upd1 mg "_law_wait" (.ref a) mg' → Grown B B' → TS B' c Pl mb h' mg' ps' ((P', tabObj #[]) :: led) → Frsh 101 ps'.toList → FnC B' a 21 "_law_wait" c' → CodeHd B' c' P' → (∀ p ∈ led, p.1 ≠ P') → Q .next { s with heap := h', toks := tk }) :
    wpAny (model P0 w) A (exec (stm 21) (envM c Fm)) Q E s := by
  rw [stm_21]
  refine def_stmt (i := 21) (nm := "_law_wait") (pos := ⟨100, 0, 101, 76⟩) T (fun _ => rfl) (by decide) rfl rfl rfl (by decide) (hp.none hk) fun B' h' tk a c' P' g T' f d hn => ?_
  exact h B' h' tk a _ c' P' _ (upd1 _ _ _) g T' (hp.add (pos := ⟨100, 0, 101, 76⟩) hk) f d hn

theorem stm_22 : stm 22 = .FunctionDef "_law_shortest" (par 22) (body 22) [] none [] (sco 22) none "_law_shortest" ⟨102, 0, 120, 22⟩ := rfl
theorem top_22 {Q : Flow → Shared → Prop} (T : TS B c Pl mb s.heap mg ps led) (hp : Frsh k ps.toList) (hk : k ≤ 102)
    (h : ∀ B' h' tk a ps' mg', Upd1 mg "_law_shortest" (.ref a) mg' → Grown B B' → TS B' c Pl mb h' mg' ps' led → Frsh 103 ps'.toList → FnIs B' a 22 "_law_shortest" .none .none → Q .next { s with heap := h', toks := tk }) :
    wpAny (model P0 w) A (exec (stm 22) (envM c Fm)) Q E s := by
  rw [stm_22]
  refine def_stmt (i := 22) (nm := "_law_shortest") (pos := ⟨102, 0, 120, 22⟩) T (fun _ => rfl) (by decide) rfl rfl rfl (by decide) (hp.none hk) fun B' h' tk a c' P' g T' f d hn => ?_
  exact h B' h' tk a _ _ (upd1 _ _ _) g T'.drop (hp.add (pos := ⟨102, 0, 120, 22⟩) hk) f.is

theorem stm_23 : stm 23 = .FunctionDef "_law_spelled" (par 23) (body 23) [] none [] (sco 23) none "_law_spelled" ⟨121, 0, 129, 15⟩ := rfl
theorem top_23 {Q : Flow → Shared → Prop} (T : TS B c Pl mb s.heap mg ps led) (hp : Frsh k ps.toList) (hk : k ≤ 121)
    (h : ∀ B' h' tk a ps' mg', Upd1 mg "_law_spelled" (.ref a) mg' → Grown B B' → TS B' c Pl mb h' mg' ps' led → Frsh 122 ps'.toList → FnIs B' a 23 "_law_spelled" .none .none → Q .next { s with heap := h', toks := tk }) :
    wpAny (model P0 w) A (exec (stm 23) (envM c Fm)) Q E s := by
  rw [stm_23]
  refine def_stmt (i := 23) (nm := "_law_spelled") (pos := ⟨121, 0, 129, 15⟩) T (fun _ => rfl) (by decide) rfl rfl rfl (by decide) (hp.none hk) fun B' h' tk a c' P' g T' f d hn => ?_
  exact h B' h' tk a _ _ (upd1 _ _ _) g T'.drop (hp.add (pos := ⟨121, 0, 129, 15⟩) hk) f.is

theorem stm_24 : stm 24 = .FunctionDef "_law_readers" (par 24) (body 24) [] none [] (sco 24) none "_law_readers" ⟨130, 0, 144, 12⟩ := rfl
theorem top_24 {Q : Flow → Shared → Prop} (T : TS B c Pl mb s.heap mg ps led) (hp : Frsh k ps.toList) (hk : k ≤ 130)
    (h : ∀ B' h' tk a ps' mg', Upd1 mg "_law_readers" (.ref a) mg' → Grown B B' → TS B' c Pl mb h' mg' ps' led → Frsh 131 ps'.toList → FnIs B' a 24 "_law_readers" .none .none → Q .next { s with heap := h', toks := tk }) :
    wpAny (model P0 w) A (exec (stm 24) (envM c Fm)) Q E s := by
  rw [stm_24]
  refine def_stmt (i := 24) (nm := "_law_readers") (pos := ⟨130, 0, 144, 12⟩) T (fun _ => rfl) (by decide) rfl rfl rfl (by decide) (hp.none hk) fun B' h' tk a c' P' g T' f d hn => ?_
  exact h B' h' tk a _ _ (upd1 _ _ _) g T'.drop (hp.add (pos := ⟨130, 0, 144, 12⟩) hk) f.is

theorem stm_25 : stm 25 = .FunctionDef "_law_parts" (par 25) (body 25) [] none [] (sco 25) none "_law_parts" ⟨145, 0, 154, 16⟩ := rfl
theorem top_25 {Q : Flow → Shared → Prop} (T : TS B c Pl mb s.heap mg ps led) (hp : Frsh k ps.toList) (hk : k ≤ 145)
    (h : ∀ B' h' tk a ps' mg', Upd1 mg "_law_parts" (.ref a) mg' → Grown B B' → TS B' c Pl mb h' mg' ps' led → Frsh 146 ps'.toList → FnIs B' a 25 "_law_parts" .none .none → Q .next { s with heap := h', toks := tk }) :
    wpAny (model P0 w) A (exec (stm 25) (envM c Fm)) Q E s := by
  rw [stm_25]
  refine def_stmt (i := 25) (nm := "_law_parts") (pos := ⟨145, 0, 154, 16⟩) T (fun _ => rfl) (by decide) rfl rfl rfl (by decide) (hp.none hk) fun B' h' tk a c' P' g T' f d hn => ?_
  exact h B' h' tk a _ _ (upd1 _ _ _) g T'.drop (hp.add (pos := ⟨145, 0, 154, 16⟩) hk) f.is

theorem stm_26 : stm 26 = .FunctionDef "_law_made_of" (par 26) (body 26) [] none [] (sco 26) none "_law_made_of" ⟨155, 0, 161, 15⟩ := rfl
theorem top_26 {Q : Flow → Shared → Prop} (T : TS B c Pl mb s.heap mg ps led) (hp : Frsh k ps.toList) (hk : k ≤ 155)
    (h : ∀ B' h' tk a ps' mg', Upd1 mg "_law_made_of" (.ref a) mg' → Grown B B' → TS B' c Pl mb h' mg' ps' led → Frsh 156 ps'.toList → FnIs B' a 26 "_law_made_of" .none .none → Q .next { s with heap := h', toks := tk }) :
    wpAny (model P0 w) A (exec (stm 26) (envM c Fm)) Q E s := by
  rw [stm_26]
  refine def_stmt (i := 26) (nm := "_law_made_of") (pos := ⟨155, 0, 161, 15⟩) T (fun _ => rfl) (by decide) rfl rfl rfl (by decide) (hp.none hk) fun B' h' tk a c' P' g T' f d hn => ?_
  exact h B' h' tk a _ _ (upd1 _ _ _) g T'.drop (hp.add (pos := ⟨155, 0, 161, 15⟩) hk) f.is

theorem stm_27 : stm 27 = .FunctionDef "law" (par 27) (body 27) [] none [] (sco 27) none "law" ⟨162, 0, 181, 59⟩ := rfl
theorem top_27 {Q : Flow → Shared → Prop} (T : TS B c Pl mb s.heap mg ps led) (hp : Frsh k ps.toList) (hk : k ≤ 162)
    (h : ∀ B' h' tk a ps' mg', Upd1 mg "law" (.ref a) mg' → Grown B B' → TS B' c Pl mb h' mg' ps' led → Frsh 163 ps'.toList → FnIs B' a 27 "law" .none .none → Q .next { s with heap := h', toks := tk }) :
    wpAny (model P0 w) A (exec (stm 27) (envM c Fm)) Q E s := by
  rw [stm_27]
  refine def_stmt (i := 27) (nm := "law") (pos := ⟨162, 0, 181, 59⟩) T (fun _ => rfl) (by decide) rfl rfl rfl (by decide) (hp.none hk) fun B' h' tk a c' P' g T' f d hn => ?_
  exact h B' h' tk a _ _ (upd1 _ _ _) g T'.drop (hp.add (pos := ⟨162, 0, 181, 59⟩) hk) f.is

theorem top_name {st : Stmt} {Q : Flow → Shared → Prop} (T : TS B c Pl mb s.heap mg ps led) (e : ∃ p p2 x q, st = .Assign [.Name "__name__" p] (.Constant (.str x) 0 p2) q)
    (h : ∀ h' tk v mg', Upd1 mg "__name__" v mg' → TS B c Pl mb h' mg' ps led → Q .next { s with heap := h', toks := tk }) : wpAny (model P0 w) A (exec st (envM c Fm)) Q E s :=
  name_stmt T e fun h' tk v T' => h h' tk v _ (upd1 _ _ _) T'
theorem top_int {st : Stmt} {nm : Str} {z : Int} {Q : Flow → Shared → Prop} (T : TS B c Pl mb s.heap mg ps led) (e : ∃ p p2 q, st = .Assign [.Name nm p] (.Constant (.int z) 0 p2) q) (hx : ("__builtins__" : Str) ≠ nm) (hl : (envM c Fm).kindOf nm = some .local)
    (h : ∀ h' tk t mg', Upd1 mg nm (.int z t) mg' → TS B c Pl mb h' mg' ps led → Q .next { s with heap := h', toks := tk }) : wpAny (model P0 w) A (exec st (envM c Fm)) Q E s :=
  int_stmt T e hx hl fun h' tk t T' => h h' tk t _ (upd1 _ _ _) T'
theorem top_b1 {Q : Flow → Shared → Prop} (T : TS B c Pl mb s.heap mg ps led) (hh : A.handled = none) (hB : ∀ x : Str, x ≠ "__name__" → mb x = bootBuiltins x) (m1 : mg "set" = none) (m2 : mg "list" = none) (m3 : mg "range" = none)
    (h : ∀ B' h' tk S mg', Upd1 mg "b1_set" (.ref S) mg' → Grown B B' → TS B' c Pl mb h' mg' ps led → InSet B' S b1b → Q .next { s with heap := h', toks := tk }) : wpAny (model P0 w) A (exec (stm 5) (envM c Fm)) Q E s :=
  b1_stmt T hh hB m1 m2 m3 fun B' h' tk S g T' x => h B' h' tk S _ (upd1 _ _ _) g T' x
theorem top_c9 {Q : Flow → Shared → Prop} (T : TS B c Pl mb s.heap mg ps led) (hh : A.handled = none) (hB : ∀ x : Str, x ≠ "__name__" → mb x = bootBuiltins x) (m1 : mg "set" = none) (m2 : mg "list" = none) (m3 : mg "range" = none)
    (h : ∀ B' h' tk S mg', Upd1 mg "c9_set" (.ref S) mg' → Grown B B' → TS B' c Pl mb h' mg' ps led → InSet B' S c9b → Q .next { s with heap := h', toks := tk }) : wpAny (model P0 w) A (exec (stm 9) (envM c Fm)) Q E s :=
  c9_stmt T hh hB m1 m2 m3 fun B' h' tk S g T' x => h B' h' tk S _ (upd1 _ _ _) g T' x
theorem top_b3 {st : Stmt} {Q : Flow → Shared → Prop} (hst : stm 7 = st) (T : TS B c Pl mb s.heap mg ps led) (hsys : @LT.lt Nat _ sysModules s.heap.objs.size)
    (h : ∀ B' h' tk S mg', Upd1 mg "b3_exceptions" (.ref S) mg' → Grown B B' → TS B' c Pl mb h' mg' ps led → (∃ o, B'.get? S = some o ∧ o.cls = .type "dict" ∧ o.dict = none) → GetsOf B' S → Q .next { s with heap := h', toks := tk }) : wpAny (model P0 w) A (exec st (envM c Fm)) Q E s :=
  b3_stmt hst T hsys fun B' h' tk S g T' x y => h B' h' tk S _ (upd1 _ _ _) g T' x y
end
end Mine

namespace Mine

noncomputable def topNames : List Str := ["__name__", "insort_right", "bisect_right", "bisect_left", "__name__", "b1_set", "in_table_b1", "b3_exceptions", "map_table_b3", "c9_set", "in_table_c9", "__name__", "ENDMARKER", "NT_OFFSET", "ISNONTERMINAL", "ISEOF", "__name__", "_law_book", "_law_words", "_law_put", "_law_begun", "_law_wait", "_law_shortest", "_law_spelled", "_law_readers", "_law_parts", "_law_made_of", "law"]
structure Made (ad : Nat → Addr) (mg : Str → Option Value) (h : Heap) : Prop where
  fn : ∀ p ∈ plainDefs, mg p.2 = some (.ref (ad p.1)) ∧ FnIs h (ad p.1) p.1 p.2 .none .none
  bis : ∀ p ∈ bisDefs, mg p.2 = some (.ref (ad p.1)) ∧ ∃ dV kV, FnIs h (ad p.1) p.1 p.2 dV kV ∧ BisDflt h dV kV
  endm : ∃ t, mg "ENDMARKER" = some (.int 0 t)
  ntoff : ∃ t, mg "NT_OFFSET" = some (.int 256 t)
  lamB : ∃ c, FnC h (ad 20) 20 "_law_begun" c ∧ CodeHd h c (ad 120)
  lamW : ∃ c, FnC h (ad 21) 21 "_law_wait" c ∧ CodeHd h c (ad 121)
  b1 : mg "b1_set" = some (.ref (ad 5)) ∧ InSet h (ad 5) b1b
  c9 : mg "c9_set" = some (.ref (ad 9)) ∧ InSet h (ad 9) c9b
  b3 : mg "b3_exceptions" = some (.ref (ad 7)) ∧ (∃ o, h.get? (ad 7) = some o ∧ o.cls = .type "dict" ∧ o.dict = none) ∧ GetsOf h (ad 7)

theorem InSet.keeps' {h h' : Heap} {a : Addr} {p : Nat → Bool} (x : InSet h a p) (k : Grown h h') : InSet h' a p :=
  fun w A E s Q c t hk => x w A E s Q c t fun b o e => hk b o (k b o e)
theorem GetsOf.keeps' {h h' : Heap} {a : Addr} (x : GetsOf h a) (k : Grown h h') : GetsOf h' a :=
  fun w A E s Q c r t hk => x w A E s Q c r t fun b o e => hk b o (k b o e)
theorem CodeHd.keeps' {h h' : Heap} {c P : Addr} (x : CodeHd h c P) (k : Grown h h') : CodeHd h' c P :=
  by obtain ⟨o, vs, file, tf, flags, tg, inF, text, tt, h1, h2⟩ := x; exact ⟨o, vs, file, tf, flags, tg, inF, text, tt, k _ _ h1, h2⟩

theorem TS.sys {B : Heap} {c Pl : Addr} {mb : Str → Option Value} {h : Heap} {mg : Str → Option Value} {ps : Array Value} {led : List (Addr × Obj)} (T : TS B c Pl mb h mg ps led) : @LT.lt Nat _ sysModules h.objs.size :=
  Nat.lt_trans (show @LT.lt Nat _ sysModules mainGlobals by decide) T.lt
theorem main_body : P0.main.body = [stm 0, stm 1, stm 2, stm 3, stm 4, stm 5, stm 6, stm 7, stm 8, stm 9, stm 10, stm 11, stm 12, stm 13, stm 14, stm 15, stm 16, stm 17, stm 18, stm 19, stm 20, stm 21, stm 22, stm 23, stm 24, stm 25, stm 26, stm 27] := rfl

noncomputable def adOf (a1 a2 a3 a5 a6 a7 a8 a9 a10 a14 a15 a17 a18 a19 a20 a21 a22 a23 a24 a25 a26 a27 P20 P21 : Addr) (i : Nat) : Addr :=
  if i = 1 then a1 else if i = 2 then a2 else if i = 3 then a3 else if i = 5 then a5 else if i = 6 then a6 else if i = 7 then a7 else if i = 8 then a8 else if i = 9 then a9 else if i = 10 then a10 else if i = 14 then a14 else if i = 15 then a15 else if i = 17 then a17 else if i = 18 then a18 else if i = 19 then a19 else if i = 20 then a20 else if i = 21 then a21 else if i = 22 then a22 else if i = 23 then a23 else if i = 24 then a24 else if i = 25 then a25 else if i = 26 then a26 else if i = 27 then a27 else if i = 120 then P20 else if i = 121 then P21 else 0
theorem ad_has (a1 a2 a3 a5 a6 a7 a8 a9 a10 a14 a15 a17 a18 a19 a20 a21 a22 a23 a24 a25 a26 a27 P20 P21 : Addr) : ∃ ad : Nat → Addr, ad 1 = a1 ∧ ad 2 = a2 ∧ ad 3 = a3 ∧ ad 5 = a5 ∧ ad 6 = a6 ∧ ad 7 = a7 ∧ ad 8 = a8 ∧ ad 9 = a9 ∧ ad 10 = a10 ∧ ad 14 = a14 ∧ ad 15 = a15 ∧ ad 17 = a17 ∧ ad 18 = a18 ∧ ad 19 = a19 ∧ ad 20 = a20 ∧ ad 21 = a21 ∧ ad 22 = a22 ∧ ad 23 = a23 ∧ ad 24 = a24 ∧ ad 25 = a25 ∧ ad 26 = a26 ∧ ad 27 = a27 ∧ ad 120 = P20 ∧ ad 121 = P21 :=
  ⟨adOf a1 a2 a3 a5 a6 a7 a8 a9 a10 a14 a15 a17 a18 a19 a20 a21 a22 a23 a24 a25 a26 a27 P20 P21, rfl, rfl, rfl, rfl, rfl, rfl, rfl, rfl, rfl, rfl, rfl, rfl, rfl, rfl, rfl, rfl, rfl, rfl, rfl, rfl, rfl, rfl, rfl, rfl⟩
section
variable {w : World} {A : Around} {E : Value → Shared → Prop} {s : Shared} {c Pl Fm : Addr} {B : Heap} {mg mb : Str → Option Value}
set_option maxHeartbeats 4000000 in
theorem top_run {Q : Flow → Shared → Prop} (T : TS B c Pl mb s.heap mg #[] []) (hh : A.handled = none) (hB : ∀ x : Str, x ≠ "__name__" → mb x = bootBuiltins x) (hm1 : mg "set" = none) (hm2 : mg "list" = none) (hm3 : mg "range" = none)
    (h : ∀ B' h' tk mg' ps' ad, Grown B B' → TS B' c Pl mb h' mg' ps' [(ad 121, tabObj #[]), (ad 120, tabObj #[])] → ad 120 ≠ ad 121 → Made ad mg' B' → (∀ x, x ∉ topNames → mg' x = mg x) → Q .next { s with heap := h', toks := tk }) :
    wpAny (model P0 w) A (execs P0.main.body (envM c Fm)) Q E s := by
  rw [main_body]
  generalize hst : stm 7 = st7
  have p0 : Frsh 0 (#[] : Array Value).toList := .nil
  refine wpAny_execs_cons ?_
  refine top_name (by exact T) stm_0 fun h0 tk0 v0 m0 u0 T0 => ?_
  dsimp only
  refine wpAny_execs_cons ?_
  refine top_1 (by exact T0) p0 (by decide) fun B1 h1 tk1 a1 ps1 dV1 kV1 m1 u1 g1 T1 p1 f1 e1 => ?_
  dsimp only
  refine wpAny_execs_cons ?_
  refine top_2 (by exact T1) p1 (by decide) fun B2 h2 tk2 a2 ps2 dV2 kV2 m2 u2 g2 T2 p2 f2 e2 => ?_
  dsimp only
  refine wpAny_execs_cons ?_
  refine top_3 (by exact T2) p2 (by decide) fun B3 h3 tk3 a3 ps3 dV3 kV3 m3 u3 g3 T3 p3 f3 e3 => ?_
  dsimp only
  refine wpAny_execs_cons ?_
  refine top_name (by exact T3) stm_4 fun h4 tk4 v4 m4 u4 T4 => ?_
  dsimp only
  refine wpAny_execs_cons ?_
  refine top_b1 (by exact T4) hh hB ((u4.keep _ (by decide)).trans ((u3.keep _ (by decide)).trans ((u2.keep _ (by decide)).trans ((u1.keep _ (by decide)).trans ((u0.keep _ (by decide)).trans (hm1)))))) ((u4.keep _ (by decide)).trans ((u3.keep _ (by decide)).trans ((u2.keep _ (by decide)).trans ((u1.keep _ (by decide)).trans ((u0.keep _ (by decide)).trans (hm2)))))) ((u4.keep _ (by decide)).trans ((u3.keep _ (by decide)).trans ((u2.keep _ (by decide)).trans ((u1.keep _ (by decide)).trans ((u0.keep _ (by decide)).trans (hm3)))))) fun B5 h5 tk5 a5 m5 u5 g5 T5 f5 => ?_
  dsimp only
  refine wpAny_execs_cons ?_
  refine top_6 (by exact T5) p3 (by decide) fun B6 h6 tk6 a6 ps6 m6 u6 g6 T6 p6 f6 => ?_
  dsimp only
  refine wpAny_execs_cons ?_
  refine top_b3 hst (by exact T6) (by exact TS.sys T6) fun B7 h7 tk7 a7 m7 u7 g7 T7 f7 e7 => ?_
  dsimp only
  refine wpAny_execs_cons ?_
  refine top_8 (by exact T7) p6 (by decide) fun B8 h8 tk8 a8 ps8 m8 u8 g8 T8 p8 f8 => ?_
  dsimp only
  refine wpAny_execs_cons ?_
  refine top_c9 (by exact T8) hh hB ((u8.keep _ (by decide)).trans ((u7.keep _ (by decide)).trans ((u6.keep _ (by decide)).trans ((u5.keep _ (by decide)).trans ((u4.keep _ (by decide)).trans ((u3.keep _ (by decide)).trans ((u2.keep _ (by decide)).trans ((u1.keep _ (by decide)).trans ((u0.keep _ (by decide)).trans (hm1)))))))))) ((u8.keep _ (by decide)).trans ((u7.keep _ (by decide)).trans ((u6.keep _ (by decide)).trans ((u5.keep _ (by decide)).trans ((u4.keep _ (by decide)).trans ((u3.keep _ (by decide)).trans ((u2.keep _ (by decide)).trans ((u1.keep _ (by decide)).trans ((u0.keep _ (by decide)).trans (hm2)))))))))) ((u8.keep _ (by decide)).trans ((u7.keep _ (by decide)).trans ((u6.keep _ (by decide)).trans ((u5.keep _ (by decide)).trans ((u4.keep _ (by decide)).trans ((u3.keep _ (by decide)).trans ((u2.keep _ (by decide)).trans ((u1.keep _ (by decide)).trans ((u0.keep _ (by decide)).trans (hm3)))))))))) fun B9 h9 tk9 a9 m9 u9 g9 T9 f9 => ?_
  dsimp only
  refine wpAny_execs_cons ?_
  refine top_10 (by exact T9) p8 (by decide) fun B10 h10 tk10 a10 ps10 m10 u10 g10 T10 p10 f10 => ?_
  dsimp only
  refine wpAny_execs_cons ?_
  refine top_name (by exact T10) stm_11 fun h11 tk11 v11 m11 u11 T11 => ?_
  dsimp only
  refine wpAny_execs_cons ?_
  refine top_int (by exact T11) stm_12 (by decide) (by rfl) fun h12 tk12 t12 m12 u12 T12 => ?_
  dsimp only
  refine wpAny_execs_cons ?_
  refine top_int (by exact T12) stm_13 (by decide) (by rfl) fun h13 tk13 t13 m13 u13 T13 => ?_
  dsimp only
  refine wpAny_execs_cons ?_
  refine top_14 (by exact T13) p10 (by decide) fun B14 h14 tk14 a14 ps14 m14 u14 g14 T14 p14 f14 => ?_
  dsimp only
  refine wpAny_execs_cons ?_
  refine top_15 (by exact T14) p14 (by decide) fun B15 h15 tk15 a15 ps15 m15 u15 g15 T15 p15 f15 => ?_
  dsimp only
  refine wpAny_execs_cons ?_
  refine top_name (by exact T15) stm_16 fun h16 tk16 v16 m16 u16 T16 => ?_
  dsimp only
  refine wpAny_execs_cons ?_
  refine top_17 (by exact T16) p15 (by decide) fun B17 h17 tk17 a17 ps17 m17 u17 g17 T17 p17 f17 => ?_
  dsimp only
  refine wpAny_execs_cons ?_
  refine top_18 (by exact T17) p17 (by decide) fun B18 h18 tk18 a18 ps18 m18 u18 g18 T18 p18 f18 => ?_
  dsimp only
  refine wpAny_execs_cons ?_
  refine top_19 (by exact T18) p18 (by decide) fun B19 h19 tk19 a19 ps19 m19 u19 g19 T19 p19 f19 => ?_
  dsimp only
  refine wpAny_execs_cons ?_
  refine top_20 (by exact T19) p19 (by decide) fun B20 h20 tk20 a20 ps20 c20 P20 m20 u20 g20 T20 p20 f20 e20 n20 => ?_
  dsimp only
  refine wpAny_execs_cons ?_
  refine top_21 (by exact T20) p20 (by decide) fun B21 h21 tk21 a21 ps21 c21 P21 m21 u21 g21 T21 p21 f21 e21 n21 => ?_
  dsimp only
  refine wpAny_execs_cons ?_
  refine top_22 (by exact T21) p21 (by decide) fun B22 h22 tk22 a22 ps22 m22 u22 g22 T22 p22 f22 => ?_
  dsimp only
  refine wpAny_execs_cons ?_
  refine top_23 (by exact T22) p22 (by decide) fun B23 h23 tk23 a23 ps23 m23 u23 g23 T23 p23 f23 => ?_
  dsimp only
  refine wpAny_execs_cons ?_
  refine top_24 (by exact T23) p23 (by decide) fun B24 h24 tk24 a24 ps24 m24 u24 g24 T24 p24 f24 => ?_
  dsimp only
  refine wpAny_execs_cons ?_
  refine top_25 (by exact T24) p24 (by decide) fun B25 h25 tk25 a25 ps25 m25 u25 g25 T25 p25 f25 => ?_
  dsimp only
  refine wpAny_execs_cons ?_
  refine top_26 (by exact T25) p25 (by decide) fun B26 h26 tk26 a26 ps26 m26 u26 g26 T26 p26 f26 => ?_
  dsimp only
  refine wpAny_execs_cons ?_
  refine top_27 (by exact T26) p26 (by decide) fun B27 h27 tk27 a27 ps27 m27 u27 g27 T27 p27 f27 => ?_
  dsimp only
  refine wpAny_execs_nil ?_
  have k27 : Grown B27 B27 := fun _ _ e => e
  have k26 : Grown B26 B27 := g27.trans k27
  have k25 : Grown B25 B27 := g26.trans k26
  have k24 : Grown B24 B27 := g25.trans k25
  have k23 : Grown B23 B27 := g24.trans k24
  have k22 : Grown B22 B27 := g23.trans k23
  have k21 : Grown B21 B27 := g22.trans k22
  have k20 : Grown B20 B27 := g21.trans k21
  have k19 : Grown B19 B27 := g20.trans k20
  have k18 : Grown B18 B27 := g19.trans k19
  have k17 : Grown B17 B27 := g18.trans k18
  have k15 : Grown B15 B27 := g17.trans k17
  have k14 : Grown B14 B27 := g15.trans k15
  have k10 : Grown B10 B27 := g14.trans k14
  have k9 : Grown B9 B27 := g10.trans k10
  have k8 : Grown B8 B27 := g9.trans k9
  have k7 : Grown B7 B27 := g8.trans k8
  have k6 : Grown B6 B27 := g7.trans k7
  have k5 : Grown B5 B27 := g6.trans k6
  have k3 : Grown B3 B27 := g5.trans k5
  have k2 : Grown B2 B27 := g3.trans k3
  have k1 : Grown B1 B27 := g2.trans k2
  have k0 : Grown B B27 := g1.trans k1
  have r27 : ∀ y, y ∉ ([] : List Str) → m27 y = m27 y := fun _ _ => rfl
  have r26 := u27.ext r27
  have r25 := u26.ext r26
  have r24 := u25.ext r25
  have r23 := u24.ext r24
  have r22 := u23.ext r23
  have r21 := u22.ext r22
  have r20 := u21.ext r21
  have r19 := u20.ext r20
  have r18 := u19.ext r19
  have r17 := u18.ext r18
  have r16 := u17.ext r17
  have r15 := u16.ext r16
  have r14 := u15.ext r15
  have r13 := u14.ext r14
  have r12 := u13.ext r13
  have r11 := u12.ext r12
  have r10 := u11.ext r11
  have r9 := u10.ext r10
  have r8 := u9.ext r9
  have r7 := u8.ext r8
  have r6 := u7.ext r7
  have r5 := u6.ext r6
  have r4 := u5.ext r5
  have r3 := u4.ext r4
  have r2 := u3.ext r3
  have r1 := u2.ext r2
  have r0 := u1.ext r1
  have rb := u0.ext r0
  obtain ⟨ad, q1, q2, q3, q5, q6, q7, q8, q9, q10, q14, q15, q17, q18, q19, q20, q21, q22, q23, q24, q25, q26, q27, q120, q121⟩ := ad_has a1 a2 a3 a5 a6 a7 a8 a9 a10 a14 a15 a17 a18 a19 a20 a21 a22 a23 a24 a25 a26 a27 P20 P21
  subst q1 q2 q3 q5 q6 q7 q8 q9 q10 q14 q15 q17 q18 q19 q20 q21 q22 q23 q24 q25 q26 q27 q120 q121
  refine h B27 h27 tk27 _ ps27 ad k0 (by exact T27) (n21 _ (.head _)) ⟨?_, ?_, ⟨_, (r12 _ (by decide)).trans u12.self⟩, ⟨_, (r13 _ (by decide)).trans u13.self⟩, ⟨c20, f20.keeps k20, Mine.CodeHd.keeps' e20 k20⟩, ⟨c21, f21.keeps k21, Mine.CodeHd.keeps' e21 k21⟩, ⟨(r5 _ (by decide)).trans u5.self, f5.keeps' k5⟩, ⟨(r9 _ (by decide)).trans u9.self, f9.keeps' k9⟩, ⟨(r7 _ (by decide)).trans u7.self, f7.imp fun o x => ⟨k7 _ _ x.1, x.2⟩, e7.keeps' k7⟩⟩ fun x hx => ?_
  · intro p hp
    simp only [plainDefs, List.mem_cons, List.not_mem_nil, or_false] at hp
    rcases hp with rfl | rfl | rfl | rfl | rfl | rfl | rfl | rfl | rfl | rfl | rfl | rfl | rfl | rfl | rfl | rfl
    · exact ⟨(r6 _ (by decide)).trans u6.self, (f6).keeps k6⟩
    · exact ⟨(r8 _ (by decide)).trans u8.self, (f8).keeps k8⟩
    · exact ⟨(r10 _ (by decide)).trans u10.self, (f10).keeps k10⟩
    · exact ⟨(r14 _ (by decide)).trans u14.self, (f14).keeps k14⟩
    · exact ⟨(r15 _ (by decide)).trans u15.self, (f15).keeps k15⟩
    · exact ⟨(r17 _ (by decide)).trans u17.self, (f17).keeps k17⟩
    · exact ⟨(r18 _ (by decide)).trans u18.self, (f18).keeps k18⟩
    · exact ⟨(r19 _ (by decide)).trans u19.self, (f19).keeps k19⟩
    · exact ⟨(r20 _ (by decide)).trans u20.self, (f20.is).keeps k20⟩
    · exact ⟨(r21 _ (by decide)).trans u21.self, (f21.is).keeps k21⟩
    · exact ⟨(r22 _ (by decide)).trans u22.self, (f22).keeps k22⟩
    · exact ⟨(r23 _ (by decide)).trans u23.self, (f23).keeps k23⟩
    · exact ⟨(r24 _ (by decide)).trans u24.self, (f24).keeps k24⟩
    · exact ⟨(r25 _ (by decide)).trans u25.self, (f25).keeps k25⟩
    · exact ⟨(r26 _ (by decide)).trans u26.self, (f26).keeps k26⟩
    · exact ⟨(r27 _ (by decide)).trans u27.self, (f27).keeps k27⟩
  · intro p hp
    simp only [bisDefs, List.mem_cons, List.not_mem_nil, or_false] at hp
    rcases hp with rfl | rfl | rfl
    · exact ⟨(r1 _ (by decide)).trans u1.self, dV1, kV1, f1.keeps k1, e1.keeps k1⟩
    · exact ⟨(r2 _ (by decide)).trans u2.self, dV2, kV2, f2.keeps k2, e2.keeps k2⟩
    · exact ⟨(r3 _ (by decide)).trans u3.self, dV3, kV3, f3.keeps k3, e3.keeps k3⟩
  · exact rb x hx
end
end Mine

namespace Mine

theorem boot_left (w : World) : (∃ s, AfterRun (opening P0) w s) ∧ ∀ s, AfterRun (opening P0) w s → (∃ mb mg c Pl, BootLeft s.heap mb mg c Pl) ∧ s.gens = #[] := by
  have h := AfterImport.of_wp (prog := opening P0) (w := w) (P := fun s => (∃ mb mg c Pl, BootLeft s.heap mb mg c Pl) ∧ s.gens = #[])
    (wpAny_boot9 (M := model (opening P0) w) (A := {}) (E := fun _ _ => False) (opening P0) (fun s' => ((∃ mb mg c Pl, BootLeft s'.heap mb mg c Pl) ∧ s'.gens = #[]) ∧ s'.gens = #[])
      (fun hp tk mb mg c Pl F hB => codeAny_body (by rfl) (by rfl) (wpAny_execs_nil ⟨⟨_, rfl⟩, ⟨⟨mb, mg, c, Pl, hB.toBootLeft⟩, rfl⟩, rfl⟩)) (by rfl) _ default boot_in)
  exact h

theorem fence_id (s : Shared) : fenceModules? P0 s = some s := by rfl

structure TopLeft (B : Heap) (s : Shared) (mb mg : Str → Option Value) (s' : Shared) (ad : Nat → Addr) (B' : Heap) (c Pl : Addr) (mg' : Str → Option Value) (ps' : Array Value) : Prop where
  os : s'.os = s.os
  g : Grown B B'
  T : TS B' c Pl mb s'.heap mg' ps' [(ad 121, tabObj #[]), (ad 120, tabObj #[])]
  ne : ad 120 ≠ ad 121
  made : Made ad mg' B'
  rest : ∀ x, x ∉ topNames → mg' x = mg x

theorem top_wp {w : World} {s : Shared} {mb mg : Str → Option Value} {c0 Pl0 : Addr} (hg : s.gens = #[]) (BL : BootLeft s.heap mb mg c0 Pl0) :
    wpAny (model P0 w) callerA (topStub P0).cur (fun fin s' => ∃ f, fin = .done f ∧ ((∃ ad B' c Pl mg' ps', TopLeft (hideL s.heap [mainGlobals]) s mb mg s' ad B' c Pl mg' ps') ∧ s'.gens = #[])) (fun _ _ => False) s := by
  unfold topStub
  dsimp only
  refine wpAny_bind (wpAny_moduleCode fun c Pl h₁ tk₁ hk hc hP hcode => ?_)
  unfold newBodyFrame
  refine wpAny_bind (wpAny_bind (wpAny_nsGet (BL.g.keeps hk) (wpAny_alloc ?_)))
  refine wpAny_bind (wpAny_run (codeAny_body (by rfl) (by rfl) ?_))
  dsimp only
  have hglt : @LT.lt Nat _ mainGlobals s.heap.objs.size := BL.g.lt
  obtain ⟨bm, o, b1, b2, b3, b4, b5, b6⟩ := BL.bmod
  have hbm := Heap.lt_size b5
  have hne : ∀ a, s.heap.objs.size ≤ a → (hideL s.heap [mainGlobals]).get? a = none := fun a ha => by
    cases e : (hideL s.heap [mainGlobals]).get? a with
    | none => rfl
    | some o => have := hideL_of _ _ _ _ e; rw [get_above ha] at this; cases this
  have hout : ∀ b, b ≠ mainGlobals → (hideL s.heap [mainGlobals]).get? b = s.heap.get? b := fun b hb => hideL_out _ _ _ (by simpa using hb)
  refine top_run (c := c) (Pl := Pl) (B := hideL s.heap [mainGlobals]) (mg := mg) (mb := mb) ?_ (by rfl) BL.builtins (BL.others _ (by decide)) (BL.others _ (by decide)) (BL.others _ (by decide)) fun B' h' tk mg' ps' ad g T ne M r => ?_
  · refine ⟨⟨(BL.g.keeps hk).push _, fun b o e => Heap.get?_push_of_some _ (hk _ _ (hideL_of _ _ _ _ e)), hideL_in _ _ _ (.head _)⟩, fun p hp => (noMem hp), hne _ hP, fun p hp => (noMem hp),
      ⟨(BL.g.keeps hk).push _, hcode.push _, ⟨Nat.lt_of_lt_of_le hglt hc, Nat.lt_of_lt_of_le hglt hP⟩, ⟨bm, o, b1, b2, b3, Nat.ne_of_lt (Nat.lt_of_lt_of_le hbm hP), Heap.get?_push_of_some _ (hk _ _ b5), b6⟩⟩, ?_⟩
    obtain ⟨ob, es, ep, ho, q⟩ := BL.b
    exact ⟨ob, es, ep, (hout _ (by decide)).trans ho, q⟩
  · exact wpAny_pure ⟨_, rfl, ⟨ad, B', c, Pl, mg', ps', rfl, g, T, ne, M, r⟩, hg⟩
end Mine

namespace Mine

theorem top_bound : ∀ x ∈ topNames, x ∈ startupNames ∨ x ∈ P0.boundNames := by decide +kernel
theorem law_def : P0.theDef "law" = some (par 27, body 27, sco 27) := rfl

structure Stands (s₁ : Shared) (ad : Nat → Addr) (mg mb : Str → Option Value) : Prop where
  asleep : s₁.asleep
  gens : s₁.gens = #[]
  g : s₁.heap.Ns mainGlobals mg
  G : Gnd ad mg mb (hideL s₁.heap [ad 120, ad 121])
  o1 : s₁.heap.get? (ad 120) = some (tabObj #[])
  o2 : s₁.heap.get? (ad 121) = some (tabObj #[])
  ne : ad 120 ≠ ad 121
  law : mg "law" = some (.ref (ad 27))
  code1 : ∃ c, CodeHd s₁.heap c (ad 120)
  code2 : ∃ c, CodeHd s₁.heap c (ad 121)

theorem top_stands {w : World} {s : Shared} (hs : AfterRun (opening P0) w s) :
    ∃ s₀, fenceModules? P0 s = some s₀ ∧ s₀.gens = #[] ∧ ∃ s₁, TopRan P0 w s₀ s₁ ∧ isTheDefsW P0 s₁.heap "law" ∧ ∃ ad mg mb, Stands s₁ ad mg mb := by
  obtain ⟨⟨mb, mg, c0, Pl0, BL⟩, hg⟩ := (boot_left w).2 s hs
  have z : s.asleep := (show AfterImport (opening P0) w s from hs).life
  obtain ⟨n, s₁, th, hrun, hth, hlife, ⟨ad, B', c, Pl, mg', ps', X⟩, hg₁⟩ := run_through (R := fun s' => ∃ ad B' c Pl mg' ps', TopLeft (hideL s.heap [mainGlobals]) s mb mg s' ad B' c Pl mg' ps') z (top_wp (w := w) hg BL)
  have hold : ∀ b o, s.heap.get? b = some o → b ≠ mainGlobals → B'.get? b = some o := fun b o e hb => X.g b o ((hideL_out _ _ _ (by simpa using hb)).trans e)
  have hkp : ∀ b o, s.heap.get? b = some o → b ≠ mainGlobals → s₁.heap.get? b = some o := fun b o e hb => X.T.F.keep b o (hold b o e hb)
  have nsK : ∀ {a : Addr} {m : Str → Option Value}, s.heap.Ns a m → a ≠ mainGlobals → s₁.heap.Ns a m := fun {a m} x hb => by obtain ⟨o, es, ep, ho, r⟩ := x; exact ⟨o, es, ep, hkp _ _ ho hb, r⟩
  have st₀ : ∀ key, staticOf s.heap key = none := fun key => Pin.staticOf_of_ns BL.statics key
  have st₁ : ∀ key, staticOf s₁.heap key = none := fun key => Pin.staticOf_of_ns (nsK BL.statics (by decide)) key
  have nm : ∀ x, globalOf s₁.heap x = mg' x := fun x => PySem.Claim2Try.globalOf_of_ns X.T.F.ns x
  have nm₀ : ∀ x, globalOf s.heap x = mg x := fun x => PySem.Claim2Try.globalOf_of_ns BL.g x
  obtain ⟨hlaw, hfn⟩ := X.made.fn (27, "law") (by decide)
  dsimp only at hlaw hfn
  refine ⟨s, fence_id s, hg, s₁, ⟨⟨n, th, hrun, hth⟩, hlife, Shared.rest_eq X.os, fun b o e hb => hkp b o e fun q => hb (.inl q), staticsI_of (.of_empty st₁), fun key => .inl ((st₁ key).trans (st₀ key).symm),
    Pin.keysAreStrs_of_ns X.T.F.ns, fun x hx => (Pin.builtinOf_of_ns (X.T.b.keeps X.T.F.keep) x).trans (BL.builtins x hx), ?_, ?_, fun x v hv => ?_, fun x hx => ?_⟩, ?_, ad, mg', mb, ?_⟩
  · obtain ⟨bm, o, a1, a2, a3, a4, a5, a6, a7, a8⟩ := X.T.main.bmod
    exact ⟨bm, o, (nm _).trans a1, a5, a6, a7⟩
  · rw [hg₁]
    intro g hgm
    simp at hgm
  · rw [nm] at hv
    by_cases ht : x ∈ topNames
    · exact top_bound x ht
    · rw [X.rest x ht] at hv
      by_cases hb : x ∈ bootMainNames
      · exact .inl hb
      · rw [BL.others x hb] at hv; cases hv
  · rw [nm, nm₀]
    exact X.rest x (by revert x; decide)
  · obtain ⟨pm, cd, doc, h1, h2⟩ := hfn
    exact ⟨ad 27, _, _, par 27, body 27, sco 27, (nm _).trans hlaw, X.T.F.keep _ _ h1, rfl, law_def, rfl, rfl, rfl, rfl, rfl, rfl, rfl, rfl, .inl ⟨rfl, rfl⟩, [], rfl, .inl ⟨rfl, rfl⟩⟩
  · have m2 := X.T.N _ (.head _)
    have m1 := X.T.N _ (.tail _ (.head _))
    dsimp only at m1 m2
    have out : ∀ b o, s₁.heap.get? b = some o → b ≠ ad 120 → b ≠ ad 121 → (hideL s₁.heap [ad 120, ad 121]).get? b = some o := fun b o e h1 h2 => (hideL_out _ _ _ (by simp [h1, h2])).trans e
    have gB : Grown B' (hideL s₁.heap [ad 120, ad 121]) := fun b o e => out b o (X.T.F.keep b o e) (fun q => by rw [q, m1.2.2] at e; cases e) (fun q => by rw [q, m2.2.2] at e; cases e)
    have M := X.made
    obtain ⟨cB, lb1, lb2⟩ := M.lamB
    obtain ⟨cW, lw1, lw2⟩ := M.lamW
    refine ⟨Shared.asleep_of_life hlife z, hg₁, X.T.F.ns, ⟨?_, X.T.b.keeps gB, ?_, BL.builtins, fun x hx => ?_, fun p hp => ⟨(M.fn p hp).1, (M.fn p hp).2.keeps gB⟩, fun p hp => by obtain ⟨a, dV, kV, b, d⟩ := M.bis p hp; exact ⟨a, dV, kV, b.keeps gB, d.keeps gB⟩,
      M.endm, M.ntoff, ?_, ⟨cB, lb1.keeps gB, Mine.CodeHd.keeps' lb2 gB⟩, ⟨cW, lw1.keeps gB, Mine.CodeHd.keeps' lw2 gB⟩, ⟨M.b1.1, M.b1.2.keeps' gB⟩, ⟨M.c9.1, M.c9.2.keeps' gB⟩, ⟨M.b3.1, M.b3.2.1.imp fun o x => ⟨gB _ _ x.1, x.2⟩, M.b3.2.2.keeps' gB⟩⟩, m1.1, m2.1, X.ne, hlaw, ⟨cB, Mine.CodeHd.keeps' lb2 X.T.F.keep⟩, ⟨cW, Mine.CodeHd.keeps' lw2 X.T.F.keep⟩⟩
    · obtain ⟨o, es, ep, ho, r⟩ := X.T.F.ns
      exact ⟨o, es, ep, out _ _ ho m1.2.1.symm m2.2.1.symm, r⟩
    · have : (hideL s₁.heap [ad 120, ad 121]).Ns cStatics (fun _ => none) := by
        obtain ⟨o, es, ep, ho, r⟩ := BL.statics
        exact ⟨o, es, ep, gB _ _ (hold _ _ ho (by decide)), r⟩
      exact ⟨_, this, rfl⟩
    · exact (X.rest x (by revert x; decide)).trans (BL.others x (by revert x; decide))
    · obtain ⟨bm, o, a1, a2, a3, a4, a5, a6, a7, a8⟩ := X.T.main.bmod
      exact ⟨bm, o, a1, a2, a3, out _ _ a5 (fun q => by rw [q, m1.1] at a5; cases a5; cases a6) (fun q => by rw [q, m2.1] at a5; cases a5; cases a6), a6, a7, a8⟩
end Mine

namespace Mine

theorem items_int {R : WRecords} : ∀ {xs : List WData}, WShape.hasItems R xs .int = true → ∃ zs : List Int, xs = zs.map WData.int
  | [], _ => ⟨[], rfl⟩
  | d :: r, x => by
    have x' : WShape.has R d .int = true ∧ WShape.hasItems R r .int = true := by simpa [WShape.hasItems] using x
    obtain ⟨z, rfl⟩ := hasW_int x'.1
    obtain ⟨zs, rfl⟩ := items_int x'.2
    exact ⟨z :: zs, rfl⟩
theorem reads_ints {R : WRecords} {cl : Str → Option Addr} {h : Heap} : ∀ {zs : List Int} {vs : List Value} {as : List Addr}, ReadsAllW R cl h vs (zs.map WData.int) as → ∃ rs : List IT, vs = rs.map iv ∧ rs.length = zs.length := by
  intro zs
  induction zs with
  | nil => intro _ _ x; cases x; exact ⟨[], rfl, rfl⟩
  | cons z zs ih =>
    intro _ _ x
    cases x with
    | cons a b =>
      cases a with
      | int i t =>
        obtain ⟨rs, rfl, e⟩ := ih b
        exact ⟨(z, t) :: rs, rfl, by simp [e]⟩
theorem reads_script {R : WRecords} {cl : Str → Option Addr} {h : Heap} {zs : List Int} {vs : List Value} {as : List Addr} (x : ReadsAllW R cl h vs [.list (zs.map WData.int)] as) :
    ∃ l, ∃ rs : List IT, vs = [.ref l] ∧ rs.length = zs.length ∧ h.IsList l (rs.map iv).toArray := by
  cases x with
  | cons a b =>
    cases b
    cases a with
    | list h1 h2 h3 h4 =>
      obtain ⟨rs, e, hl⟩ := reads_ints h4
      refine ⟨_, rs, rfl, hl, ?_⟩
      rw [← e]
      exact ⟨_, h1, h2, _, by simpa using h3⟩

noncomputable abbrev row0 : RowW := PySem.Challenge.rw_rl0111_01.row.toRowW
theorem pre_len {d : WData} (x : row0.pre.holds row0.records { args := [d] } = true) (zs : List Int) (e : d = .list (zs.map WData.int)) : zs.length ≤ 63 := by
  subst e
  have x' : WTm.holds [] (.and (.not (.lt (.lit (.int 63)) (.len (.arg 0)))) (.lit (.bool true))) { args := [.list (zs.map WData.int)] } = true := x
  simp only [WTm.holds, WTm.value, List.getElem?_cons_zero, List.length_map] at x'
  by_cases h : zs.length ≤ 63
  · exact h
  · have e : less? (WData.int 63) (WData.int (zs.length : Int)) = some true := by
      have e1 : less? (WData.int 63) (WData.int (zs.length : Int)) = some (decide ((63 : Int) < (zs.length : Int))) := by simp [less?, Num.less?]
      rw [e1]
      exact congrArg some (decide_eq_true (by omega))
    rw [e] at x'
    exact Bool.noConfusion x'
theorem pre_script {args : List WData} (x : row0.claim.pre args = true) : ∃ zs : List Int, args = [.list (zs.map WData.int)] ∧ zs.length ≤ 63 := by
  obtain ⟨h1, h2⟩ := pre_splitW x
  obtain ⟨d, r, rfl, hd, hr⟩ := hasAllW_cons (e := .list .int) (es := []) h1
  obtain rfl := hasAllW_nil hr
  obtain ⟨xs, rfl, hi⟩ := hasW_list hd
  obtain ⟨zs, rfl⟩ := items_int hi
  exact ⟨zs, rfl, pre_len h2 zs rfl⟩
theorem post_true (args ds : List WData) : row0.claim.post args (.bool true) ds = true := by
  show (WShape.has [] (.bool true) .bool && WTm.holds [] (.eq .res (.lit (.bool true))) { args := args, res := some (.bool true), after := ds }) = true
  simp [WShape.has, WShape.arms, WTm.holds, WTm.value, same]
end Mine

namespace Mine

theorem promised0 : row0.promised := ⟨[.list []], by decide +kernel, by decide +kernel⟩
theorem bare0 : P0.bare := ⟨rfl, rfl, rfl, rfl, rfl, by decide +kernel⟩
theorem opens0 : opensWell P0 = true := by decide +kernel

theorem law_ends {w : World} {s s₁ : Shared} {ad : Nat → Addr} {mg mb : Str → Option Value} {args : List WData} {vs : List Value} {as : List Addr} (X : Stands s ad mg mb) (hpre : row0.claim.pre args = true) (L : Laid row0.records w s s₁ args vs as) :
    wpAny (model P0 w) callerA (do match ← nsGet mainNs "law" with
      | some f => do ret (← call f vs)
      | none => unsupported "claim.caller:no-such-global") (fun fin s' => ∃ f, fin = .done f ∧ (row0.claim.Ends s args vs s₁ (.ok f) s' ∧ s'.os = s.os ∧ AllBare s'.gens)) (fun _ _ => False) s₁ := by
  obtain ⟨zs, rfl, hz⟩ := pre_script hpre
  obtain ⟨l, rs, rfl, hlen, hl⟩ := reads_script L.reads
  refine wpAny_bind (wpAny_nsGet (X.g.keeps L.keeps) ?_)
  rw [X.law]
  dsimp only
  refine wpAny_bind ?_
  have o1 := L.keeps _ _ X.o1
  have o2 := L.keeps _ _ X.o2
  refine law_call (B := hideL s.heap [ad 120, ad 121]) (t1 := #[]) (t2 := #[]) X.G (fun b o e => L.keeps _ _ (hideL_of _ _ _ _ e)) (hideL_in _ _ _ (.head _)) (hideL_in _ _ _ (.tail _ (.head _))) X.ne ⟨by decide, by decide, rfl⟩ o1 o2 ⟨trivial, .inl rfl⟩ ⟨trivial, .inl rfl⟩ hl (by omega) fun h' tk t1' t2' keep o1' o2' => ?_
  refine wpAny_pure ⟨_, rfl, ?_⟩
  have code : ∀ {b}, (∃ c, CodeHd s.heap c b) → isCodeTable s₁.heap b := fun {b} x => by
    obtain ⟨c, o, v, file, tf, flags, tg, inF, text, tt, e1, e2, e3, e4, _⟩ := x
    exact ⟨c, o, v, L.keeps _ _ e1, e2, e3, e4⟩
  have tab : ∀ {b t o}, s₁.heap.get? b = some (tabObj #[]) → s₁.heap.get? b = some o → h'.get? b = some (tabObj t) → isCodeTable s₁.heap b → asItWas s₁.heap h' b o := fun {b t o} e e' e2 hc => by
    rw [e] at e'
    obtain rfl := Option.some.inj e'
    exact .inr (.inl ⟨hc, rfl, #[], t, rfl, by rw [e2, Array.empty_append]⟩)
  have old : OldK s₁.heap h' := by
    refine ⟨fun b o e => ?_, fun b o e => ?_⟩
    · by_cases h1 : b = ad 120
      · subst h1; exact tab o1 e o1' (code X.code1)
      by_cases h2 : b = ad 121
      · subst h2; exact tab o2 e o2' (code X.code2)
      · exact .inl (keep b o h1 h2 e)
    · by_cases h1 : b = ad 120
      · subst h1; exact ⟨_, o1'⟩
      by_cases h2 : b = ad 121
      · subst h2; exact ⟨_, o2'⟩
      · exact ⟨o, keep b o h1 h2 e⟩
  have good : GoodWG row0.claim (classAt s.heap) (ExcName.means s.heap) [.list (zs.map WData.int)] s₁ (.ok (.ret (.bool true))) { s₁ with heap := h', toks := tk } :=
    ⟨.inl ⟨.bool true, .bool true, [], rfl, fun cls => rfl, .bool true, post_true _ _, fun _ => ⟨.nil, fun a ha => nomatch ha⟩⟩, old, rfl, .of_eq L.gens⟩
  exact good.laid rfl rfl (ident_freeW rfl rfl rfl) L

theorem head0 (kps : List Str) : row0.claim.HoldsOpenBy (callStub "law") ["law"] kps false := by
  refine ⟨⟨bare0, opens0, rfl⟩, promised0.witness, fun w => ⟨(boot_left w).1, fun s' hs' => ?_⟩⟩
  obtain ⟨s₀, hf, hg0, s, hT, hpin, ad, mg, mb, X⟩ := top_stands hs'
  refine ⟨s₀, hf, hg0, s, hT, fun n hn => ?_, fun x hx => (nomatch hx), fun x hx => (nomatch hx), ?_⟩
  · obtain rfl := List.mem_singleton.mp hn
    exact hpin
  refine ClaimW.callFrom_of_specG (c := row0.claim) X.asleep X.gens fun args hpre hlay ord hord => ?_
  obtain ⟨⟨vs, s₁⟩, hlaid⟩ := Option.isSome_iff_exists.mp (layAllW_isSome (R := row0.records) (cl := classAt s.heap) (P := w.params) (ord := ord) (fun c hc => nomatch hc) args row0.args s (pre_splitW hpre).1)
  have keeps := layAllW_keeps _ _ _ hlaid
  have hal := layAllW_rest _ _ _ hlaid
  obtain ⟨as, hrd, hin, hold⟩ := reads_layAllW hord _ _ _ hlaid hlay s₁.heap (fun _ _ e => e)
  have L : Laid row0.records w s s₁ args vs as := ⟨⟨ord, hord, hlaid⟩, hrd, hin, hold, keeps, hal.1.trans X.gens, hal.2.2.1⟩
  exact ⟨vs, s₁, hlaid, wpAny_mono (law_ends X hpre L) (fun fin s' x => x.elim fun f x => ⟨f, x.1, x.2.1, x.2.2.1, x.2.2.2, fun q => Bool.noConfusion q⟩) fun _ _ q => q.elim⟩

theorem row_holds (k : PySem.Challenge.rw_rl0111_01.row.wellSaid = true) : PySem.Challenge.rw_rl0111_01.row.Holds := ⟨k, promised0, head0 _⟩
end Mine

namespace Mine
theorem said0 : PySem.Challenge.rw_rl0111_01.wellSaid = true := by decide +kernel
end Mine
theorem PySem.Challenge.cw_rl0111_01_holds : PySem.Challenge.rw_rl0111_01.Holds := by
  exact ⟨Mine.said0, Mine.row_holds (row_said Mine.said0)⟩

