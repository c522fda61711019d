import PyProof.Rows.All
import Wide.All
import OpenK.AllK
import Wide.FinOn
import PySem.Challenge.RW_lb0022_01
open PySem PySem.W PyProof.Rows
set_option Elab.async false
namespace Mine
local macro_rules | `(tactic| walk_at "mw") => `(tactic| first
  | with_reducible refine wpAny_execs_nil ?_
  | with_reducible refine wpAny_execs_cons ?_
  | with_reducible refine wpAny_Return_some ?_
  | with_reducible refine wpAny_If ?_
  | with_reducible refine wpAny_IfExp ?_
  | with_reducible refine wpAny_BinOp ?_
  | with_reducible refine wpAny_Call_NameR ?_
  | with_reducible refine Subscript_ ?_
  | ((with_reducible refine' wpAny_Assign_Name ?_ ?hs); (case hs => rfl))
  | ((with_reducible refine' wpAny_Compare1 ?_ ?hs); (case hs => with_unfolding_all rfl))
  | ((with_reducible refine' wpAny_isTrue_Compare1 ?_ ?hs); (case hs => with_unfolding_all rfl))
  | with_reducible refine wpAny_Constant_int ?_
  | with_reducible refine wpAny_Constant_str ?_
  | with_reducible refine wpAny_Constant_none ?_
  | with_reducible refine wpAny_Constant_bool ?_
  | ((with_reducible refine' callWith_builtin1 ?_ ?he ?hp); (case he => rfl); (case hp => rfl))
  | ((with_reducible refine' wpAny_items_cons ?_ ?he); (case he => rfl))
  | with_reducible refine wpAny_items_nil ?_)
section
theorem dp0 {a n N : Nat} (h : a + n < N) : a < N := Nat.lt_of_le_of_lt (Nat.le_add_right _ _) h
theorem dpA {a n k N : Nat} (h : a + n < N) (hk : k ≤ n) : a + k < N := Nat.lt_of_le_of_lt (Nat.add_le_add_left hk _) h
theorem dpB {a n j k N : Nat} (h : a + n < N) (hk : j + k ≤ n) : a + j + k < N := by rw [Nat.add_assoc]; exact dpA h hk

/-- the i-th statement of the text's top -/
def stm (i : Nat) : Stmt := PySem.Challenge.pw_lb0022_01.main.body.getD i (.Pass default)
def parOf : Stmt → Arguments
  | .FunctionDef _ a _ _ _ _ _ _ _ _ => a
  | _ => default
def bodOf : Stmt → List Stmt
  | .FunctionDef _ _ b _ _ _ _ _ _ _ => b
  | .ClassDef _ _ _ b _ _ _ _ _ _ _ => b
  | _ => []
def scoOf : Stmt → Scope
  | .FunctionDef _ _ _ _ _ _ sc _ _ _ => sc
  | _ => default

/-- a plain def of the top, at f, its code at c -/
def FnIs (h : Heap) (f c : Addr) (name : Str) (st : Stmt) : Prop :=
  ∃ o pm doc, h.get? f = some o ∧ o.data = .func (Calls.docDef name (parOf st) (bodOf st) (scoOf st) pm (.ref c) doc) ∧ h.CodeRec (.ref c) name

abbrev Kp (h h' : Heap) : Prop := ∀ b o, h.get? b = some o → h'.get? b = some o

theorem FnIs.keeps {h h' : Heap} {f c : Addr} {n : Str} {st : Stmt} (x : FnIs h f c n st) (k : Kp h h') : FnIs h' f c n st :=
  let ⟨o, pm, doc, a, b, d⟩ := x; ⟨o, pm, doc, k _ _ a, b, d.keeps k⟩

theorem FnIs.at {h : Heap} {f c : Addr} {n : Str} {st : Stmt} (x : FnIs h f c n st) : FnAt f h :=
 by
  obtain ⟨⟨oc, od, dt, sl⟩, _, _, a, b, _⟩ := x
  simp only at b
  subst b
  exact ⟨oc, od, _, sl, a⟩

theorem isList_kp {h h' : Heap} {l : Addr} {vs : Array Value} (x : h.IsList l vs) (k : Kp h h') : h'.IsList l vs := let ⟨o, a, b⟩ := x; ⟨o, k _ _ a, b⟩

structure Gl (mg mb : Str → Option Value) (h : Heap) : Prop where
  g : h.Ns mainGlobals mg
  b : h.Ns builtinsNs mb
  lim : h.NoLimit
  boot : ∀ x : Str, x ≠ "__name__" → mb x = bootBuiltins x
  free : ∀ x ∈ (["len", "bytes", "zip", "range", "reversed", "isinstance", "int", "bool", "ValueError"] : List Str), mg x = none
  bmain : ∃ bm ob, mg "__builtins__" = some (.ref bm) ∧ bm ≠ builtinsNs ∧ h.get? bm = some ob ∧ ob.cls = .type "module" ∧ ob.dict = some builtinsNs ∧ ob.data = .plain
  odd : ∃ t, mg "_law_odd" = some (.int 9237271112258064195694948353538909955570399 t)
  idl : ∃ t, mg "ID_LENGTH_BITS" = some (.int 15 t)
  cus : ∃ t, mg "CUSTOMIZATION_STRING_ORIG" = some (.bytes #[115, 104, 97, 109, 105, 114] t)
  base : ∃ t, mg "BASE_ITERATION_COUNT" = some (.int 10000 t)
  rnd : ∃ t, mg "ROUND_COUNT" = some (.int 4 t)
  n_rb : mg "_round_bits" = some (.ref 21)
  f_rb : FnIs h 21 20 "_round_bits" (stm 5)
  n_bb : mg "bits_to_bytes" = some (.ref 28)
  f_bb : FnIs h 28 27 "bits_to_bytes" (stm 6)
  n_xor : mg "_xor" = some (.ref 35)
  f_xor : FnIs h 35 34 "_xor" (stm 8)
  n_rf : mg "_round_function" = some (.ref 42)
  f_rf : FnIs h 42 41 "_round_function" (stm 9)
  n_gs : mg "_get_salt" = some (.ref 49)
  f_gs : FnIs h 49 48 "_get_salt" (stm 10)
  n_enc : mg "encrypt" = some (.ref 56)
  f_enc : FnIs h 56 55 "encrypt" (stm 11)
  n_dec : mg "decrypt" = some (.ref 63)
  f_dec : FnIs h 63 62 "decrypt" (stm 12)
  n_dc : mg "decrypt_cipher" = some (.ref 63)
  n_ln : mg "_law_number" = some (.ref 115)
  f_ln : FnIs h 115 114 "_law_number" (stm 18)
  n_lr : mg "_law_row" = some (.ref 122)
  f_lr : FnIs h 122 121 "_law_row" (stm 19)
  n_lo : mg "_law_octets" = some (.ref 127)
  f_lo : FnIs h 127 126 "_law_octets" (stm 20)
  n_lm : mg "_law_mixed" = some (.ref 134)
  f_lm : FnIs h 134 133 "_law_mixed" (stm 21)
  n_ls : mg "_law_same" = some (.ref 141)
  f_ls : FnIs h 141 140 "_law_same" (stm 22)

theorem Gl.keeps {mg mb : Str → Option Value} {h h' : Heap} (x : Gl mg mb h) (k : Kp h h') : Gl mg mb h' :=
  { x with
    g := x.g.keeps k, b := x.b.keeps k, lim := x.lim.keeps k
    bmain := (let ⟨bm, ob, a, b, c, d⟩ := x.bmain; ⟨bm, ob, a, b, k _ _ c, d⟩)
    f_rb := x.f_rb.keeps k, f_bb := x.f_bb.keeps k, f_xor := x.f_xor.keeps k, f_rf := x.f_rf.keeps k, f_gs := x.f_gs.keeps k, f_enc := x.f_enc.keeps k, f_dec := x.f_dec.keeps k
    f_ln := x.f_ln.keeps k, f_lr := x.f_lr.keeps k, f_lo := x.f_lo.keeps k, f_lm := x.f_lm.keeps k, f_ls := x.f_ls.keeps k }

section
variable {prog : Program} {w : World} {A : Around} {E : Value → Shared → Prop} {s : Shared} {env : Env} {L : Addr} {h₀ : Heap} {m mg mb : Str → Option Value}

/-- a local of the frame -/
theorem nmL {x : Str} {pos : Pos} {v : Value} {Q : Value → Shared → Prop} (F : Fr h₀ env.locals s.heap m) (hv : m x = some v) (h : Q v s)
    (hk : env.scope.kind = .function := by rfl) (hl : env.kindOf x = some .local := by rfl) (hd : (x == ("__debug__" : Str)) = false := by decide) :
    wpAny (model prog w) A (eval (.Name x pos) env) Q E s := wpAny_Name (wpAny_loadName_local hk hl F.ns hv h) hd
/-- a name of the text's top -/
theorem nmG {x : Str} {pos : Pos} {v : Value} {Q : Value → Shared → Prop} (G : Gl mg mb s.heap) (hv : mg x = some v) (h : Q v s)
    (hg : env.globals = mainGlobals := by rfl) (hk : env.scope.kind = .function := by rfl) (hl : env.kindOf x = some .globalImplicit := by rfl) (hd : (x == ("__debug__" : Str)) = false := by decide) :
    wpAny (model prog w) A (eval (.Name x pos) env) Q E s :=
  Calls.Name_function_global hk hl (Calls.loadGlobal_global (hg ▸ G.g) hv h) hd
/-- a name of the builtins -/
theorem nmB {x : Str} {pos : Pos} {v : Value} {Q : Value → Shared → Prop} (G : Gl mg mb s.heap) (hm : mg x = none) (hv : bootBuiltins x = some v) (h : Q v s)
    (hn : x ≠ "__name__" := by decide) (hg : env.globals = mainGlobals := by rfl) (hb : env.builtins = builtinsNs := by rfl) (hk : env.scope.kind = .function := by rfl) (hl : env.kindOf x = some .globalImplicit := by rfl) (hd : (x == ("__debug__" : Str)) = false := by decide) :
    wpAny (model prog w) A (eval (.Name x pos) env) Q E s :=
  Calls.Name_function_global hk hl (Calls.loadGlobal_builtin (hg ▸ G.g) hm (hb ▸ G.b) ((G.boot x hn).trans hv) h) hd

theorem Gl.fr {h : Heap} (G : Gl mg mb h₀) (F : Fr h₀ L h m) : Gl mg mb h := G.keeps F.keep

/-- a call of a plain def that gives back a value; its own base is the whole heap of its start -/
theorem call_def {f c : Addr} {name : Str} {st : Stmt} {args : List Value} {binds : List (Str × Value)} {Q : Value → Shared → Prop} (hroom : A.depth < recursionLimit) (hlim : s.heap.NoLimit) (hf : FnIs s.heap f c name st)
    (hbind : ∀ pm doc, bindArgs (Calls.docDef name (parOf st) (bodOf st) (scoOf st) pm (.ref c) doc) ⟨args, []⟩ = pure binds)
    (hloc : ∀ x ∈ binds, (scoOf st).names.lookup x.1 = some .local)
    (h : ∀ h₁, Fr s.heap s.heap.objs.size h₁ (fun x => binds.reverse.lookup x) →
      wpAny (model prog w) (A.deeper (envOf name (scoOf st) s.heap.objs.size f (.ref c))) (execs (bodOf st) (envOf name (scoOf st) s.heap.objs.size f (.ref c)))
        (fun fl s' => Q (match fl with | .ret v => v | _ => .none) s') (fun _ _ => False) { s with heap := h₁, toks := s.toks + binds.length })
    (hco : (scoOf st).isCoroutine = false := by rfl) (hgen : (scoOf st).isGenerator = false := by rfl) (hk : (scoOf st).kind = .function := by rfl)
    (hcell : ∀ x ∈ (scoOf st).names, x.2 ≠ .cell := by decide) : wpAny (model prog w) A (call (.ref f) args) Q E s := by
  obtain ⟨o, pm, doc, ho, hd, hcd⟩ := hf
  exact wpAny_call (call_plain_ret hroom ho hd hlim hcd (hbind pm doc) hloc (fun h₁ F => wpAny_mono (h h₁ F) (fun _ _ x => x) fun _ _ x => x) hco hgen hk hcell)
end
end

local macro_rules | `(tactic| walk_at "dp") => `(tactic| first
  | exact dp0 (by assumption)
  | exact dpA (by assumption) (by decide)
  | exact dpB (by assumption) (by decide)
  | exact Nat.le_trans (by assumption) (by decide)
  | exact Nat.lt_of_lt_of_le (by assumption) (by decide)
  | exact Nat.le_of_lt (Nat.lt_of_lt_of_le (by assumption) (by decide))
  | omega)

section
section
variable {prog : Program} {w : World} {A : Around} {E : Value → Shared → Prop} {s : Shared} {env : Env} {L : Addr} {h₀ : Heap} {m mg mb : Str → Option Value}

theorem law_number_call {l : Addr} {vs : List Value} {ns : List Int} {i : Int} {t : Tok} {Q : Value → Shared → Prop} (G : Gl mg mb s.heap) (hroom : A.depth < recursionLimit)
    (hl : s.heap.IsList l vs.toArray) (hi : IntsAre vs ns) (hz : ns.length ≤ 63) (h0 : 0 ≤ i) (h1 : i < 2 ^ 62)
    (h : ∀ h' t' k, Kp s.heap h' → Q (.int (ns.getD i.toNat 0) t') { s with heap := h', toks := k }) :
    wpAny (model prog w) A (call (.ref 115) [.ref l, .int i t]) Q E s := by
  refine call_def (binds := [("script", .ref l), ("place", .int i t)]) hroom G.lim G.f_ln (by intro _ _; rfl) (by exact locs rfl) fun h₁ F => ?_
  have G₁ := G.fr F
  have hl₁ : h₁.IsList l vs.toArray := isList_kp hl F.keep
  refine wpAny_execs_cons (wpAny_Return_some (wpAny_IfExp ?_))
  refine wpAny_isTrue_Compare1 (nmL F rfl ?_)
  refine wpAny_Call_NameR (nmB G₁ (G.free _ (by decide)) (by boot_fast) ?_)
  refine callWith_builtin1 (wpAny_items_cons (nmL F rfl (wpAny_items_nil ?_)))
  refine len_list hl₁ ?_ ?_
  · have := hi.length; simp; omega
  refine lt_int (wpAny_truthy_bool ?_)
  have hlen := hi.length
  by_cases hlt : i < (ns.length : Int)
  · rw [if_pos (by simpa [hlen] using hlt)]
    obtain ⟨v, hv⟩ : ∃ v, vs[i.toNat]? = some v := ⟨vs[i.toNat]'(by walk_at "dp"), List.getElem?_eq_getElem (by walk_at "dp")⟩
    obtain ⟨n, tn, rfl, hn⟩ := IntsAre.at hi i.toNat v hv
    refine Subscript_ (nmL F rfl (nmL F rfl (item_list hl₁ h0 (by walk_at "dp") (by simpa using hv) ?_)))
    dsimp only
    have e : n = ns.getD i.toNat 0 := by simp [List.getD, hn]
    rw [e]
    exact h _ _ _ F.keep
  · rw [if_neg (by simpa [hlen] using hlt)]
    refine wpAny_Constant_int ?_
    dsimp only
    have e : (0 : Int) = ns.getD i.toNat 0 := by
      rw [List.getD_eq_getElem?_getD, List.getElem?_eq_none (by walk_at "dp")]; rfl
    rw [e]
    exact h _ _ _ F.keep


def oddC : Int := 9237271112258064195694948353538909955570399
def rowOf (ns : List Int) (p n : Nat) : Int := ((ns.getD p 0 + p) * oddC).fmod (256 ^ n)

theorem law_row_call {l : Addr} {vs : List Value} {ns : List Int} {p n : Nat} {t u : Tok} {Q : Value → Shared → Prop} (G : Gl mg mb s.heap) (hroom : A.depth + 1 < recursionLimit)
    (hl : s.heap.IsList l vs.toArray) (hi : IntsAre vs ns) (hz : ns.length ≤ 63) (h1 : p < 2 ^ 20) (hn : n ≤ 16) (hm : IntMulOk (ns.getD p 0 + p) oddC)
    (h : ∀ h' t' k, Kp s.heap h' → Q (.int (rowOf ns p n) t') { s with heap := h', toks := k }) :
    wpAny (model prog w) A (call (.ref 122) [.ref l, .int p t, .int n u]) Q E s := by
  refine call_def (binds := [("script", .ref l), ("place", .int p t), ("octets", .int n u)]) (Nat.lt_of_succ_lt hroom) G.lim G.f_lr (by intro _ _; rfl) (by exact locs rfl) fun h₁ F => ?_
  have G₁ := G.fr F
  obtain ⟨to, ho⟩ := G.odd
  have hl₁ : h₁.IsList l vs.toArray := isList_kp hl F.keep
  refine wpAny_execs_cons ?_
  repeat walk_at "mw"
  refine nmG G₁ G.n_ln (callWith_F G₁.f_ln.at ?_)
  walk_at "mw"
  refine nmL F rfl ?_
  walk_at "mw"
  refine nmL F rfl (wpAny_items_nil ⟨G₁.f_ln.at, ?_⟩)
  refine law_number_call (i := (p : Int)) G₁ hroom hl₁ hi hz (by walk_at "dp") (by walk_at "dp") fun h₂ t₂ k₂ K₂ => ?_
  have F₂ := F.keeps K₂
  have G₂ := G₁.keeps K₂
  refine nmL F₂ rfl (add_int (nmG G₂ ho (mul_int ?_ ?_)))
  · repeat walk_at "mw"
    refine nmL F₂ rfl ?_
    have h256 : (Builtin.Int.intBits 256 : Int) * (n : Int) ≤ 2 ^ 27 := by
      rw [show (Builtin.Int.intBits 256 : Int) = 9 from by decide +kernel]; omega
    refine pow_int (by walk_at "dp") h256 ?_
    have hne : (256 : Int) ^ (n : Int).toNat ≠ 0 := by
      exact Int.ne_of_gt (Int.pow_pos (by decide))
    refine mod_int' hne ?_
    exact h _ _ _ fun b o e => K₂ _ _ (F.keep _ _ e)
  · simpa [oddC] using hm
end
end

section
section
variable {prog : Program} {w : World} {A : Around} {E : Value → Shared → Prop} {s : Shared} {env : Env} {L : Addr} {h₀ : Heap} {m mg mb : Str → Option Value}

/-- a call of a plain def whose names a comprehension or a def within it takes (cells) -/
theorem call_defC {f c : Addr} {name : Str} {st : Stmt} {args : List Value} {binds : List (Str × Value)} {Q : Value → Shared → Prop} (hroom : A.depth < recursionLimit) (hlim : s.heap.NoLimit) (hf : FnIs s.heap f c name st)
    (hbind : ∀ pm doc, bindArgs (Calls.docDef name (parOf st) (bodOf st) (scoOf st) pm (.ref c) doc) ⟨args, []⟩ = pure binds)
    (hkind : ∀ x ∈ binds, (scoOf st).names.lookup x.1 = some .local ∨ ((scoOf st).names.lookup x.1 = some .cell ∧ ((cellsFrom (s.heap.objs.size + 1) (scoOf st).names []).lookup x.1).isSome = true))
    (h : ∀ h₁ tk, Fr s.heap s.heap.objs.size h₁ (bindL (envOfC name (scoOf st) s.heap.objs.size f (.ref c)).kindOf binds fun _ => none) →
      Cl s.heap.objs.size (cellsFrom (s.heap.objs.size + 1) (scoOf st).names []) h₁ (bindC (envOfC name (scoOf st) s.heap.objs.size f (.ref c)).kindOf binds fun _ => none) →
      wpAny (model prog w) (A.deeper (envOfC name (scoOf st) s.heap.objs.size f (.ref c))) (execs (bodOf st) (envOfC name (scoOf st) s.heap.objs.size f (.ref c)))
        (fun fl s' => Q (match fl with | .ret v => v | _ => .none) s') (fun _ _ => False) { s with heap := h₁, toks := tk })
    (hco : (scoOf st).isCoroutine = false := by rfl) (hgen : (scoOf st).isGenerator = false := by rfl) (hk : (scoOf st).kind = .function := by rfl) : wpAny (model prog w) A (call (.ref f) args) Q E s := by
  obtain ⟨o, pm, doc, ho, hd, hcd⟩ := hf
  exact wpAny_call (call_cells_ret hroom ho hd hlim hcd (hbind pm doc) hkind (fun h₁ tk F X => wpAny_mono (h h₁ tk F X) (fun _ _ x => x) fun _ _ x => x) hco hgen hk)

theorem paired_ex {R : Nat → Value → Prop} {n : Nat} : ∀ {vs ys : List Value} (k : Nat), Paired (fun v y => ∃ (i : Nat) (t : Tok), v = Value.int (i : Int) t ∧ R i y) vs ys → (∀ (j : Nat) (v : Value), vs[j]? = some v → k + j < n ∧ ∃ t, v = Value.int (0 + ((k + j : Nat) : Int) * 1) t) →
    ys.length = vs.length ∧ ∀ (j : Nat) (y : Value), ys[j]? = some y → R (k + j) y
  | [], [], k, .nil, _ => ⟨rfl, fun _ _ e => by cases e⟩
  | v :: vs, y :: ys, k, .cons hF hr, hv => by
    obtain ⟨hl, hR⟩ := paired_ex (k + 1) hr fun j v' e => by
      obtain ⟨hlt, t, ht⟩ := hv (j + 1) v' (by simpa using e)
      have e1 : k + (j + 1) = k + 1 + j := by omega
      rw [e1] at hlt ht
      exact ⟨hlt, t, ht⟩
    refine ⟨by simp [hl], fun j y' e => ?_⟩
    cases j with
    | zero =>
      obtain ⟨i, t, hi, hR0⟩ := hF
      obtain ⟨_, t', e'⟩ := hv 0 v rfl
      rw [hi] at e'
      have : (i : Int) = 0 + ((k + 0 : Nat) : Int) * 1 := (Value.int.inj e').1
      have hik : i = k := by omega
      simp at e
      subst e; subst hik
      exact hR0
    | succ j =>
      have := hR j y' (by simpa using e)
      rwa [show k + 1 + j = k + (j + 1) by omega] at this

/-- a list of an element for each number below n -/
theorem ListComp_range {elt iter : Expr} {x : Str} {px : Pos} {scope : Scope} {cl : List (Str × Addr)} {pos : Pos} {Q : Value → Shared → Prop} {n : Nat} (R : Nat → Value → Prop)
    (hh : A.handled = none) (hn : n ≤ 1000) (hclos : closureFor scope env = pure cl)
    (hit : ∀ Q', (∀ r h' t u v k, IsRange h' r 0 n 1 t u v → Kp s.heap h' → Q' (.ref r) { s with heap := h', toks := k }) → wpAny (model prog w) A (eval iter env) Q' E s)
    (helt : ∀ C (i : Nat) t (s₃ : Shared) m₃ E', i < n → s₃.heap.Ns C m₃ → m₃ x = some (.int (i : Int) t) → Kp s.heap s₃.heap →
      wpAny (model prog w) A (eval elt (compEnvC scope cl C env)) (fun y s₄ => R i y ∧ Keeps s₃ s₄) E' s₃)
    (h : ∀ D h' tk (ys : List Value), s.heap.get? D = none → h'.IsList D ys.toArray → ys.length = n → (∀ (i : Nat) v, ys[i]? = some v → R i v) → Kp s.heap h' → Q (.ref D) { s with heap := h', toks := tk })
    (hcell : ∀ y ∈ scope.names, y.2 ≠ .cell := by decide) (hkind : scope.kind = .function := by rfl)
    (hnames : ∀ y ∈ scope.names, y.2 = .local → scope.names.lookup y.1 = some .local := by decide) (hx : scope.names.lookup x = some .local := by rfl)
    (hs : ∀ x, foldedSetIterable iter env x = pure x := by intro _; rfl) :
    wpAny (model prog w) A (eval (.ListComp elt [⟨.Name x px, iter, [], 0⟩] scope pos) env) Q E s := by
  refine wpAny_ListComp_free (cl := cl) (fun _ => true) (fun v y => ∃ (i : Nat) (t : Tok), v = .int (i : Int) t ∧ R i y) hclos hcell hkind hnames hx (hit _ fun r h' t u v k hr hk => ?_) hs
  refine wpAny_pyIter_range hr (small_one (by walk_at "dp") (by walk_at "dp") (by walk_at "dp") (by walk_at "dp")) ?_
  have hsz : Builtin.Range.rangeSize 0 (n : Int) 1 = (n : Int) := by rw [rangeSize_one]; split <;> omega
  rw [hsz]
  have hI : IsRangeIter (h'.push { cls := .type "range_iterator", data := .fields #[rawInt 0, rawInt (n : Int), rawInt 1] }) h'.objs.size (0 + ((0 : Nat) : Int) * 1) ((n : Int) - ((0 : Nat) : Int)) 1 := by
    show Heap.get? _ _ = _
    rw [Heap.get?_push_size _ rfl]
    simp [rawInt]
  have hk' : Kp s.heap (h'.push { cls := .type "range_iterator", data := .fields #[rawInt 0, rawInt (n : Int), rawInt 1] }) := fun b o e => Heap.get?_push_of_some _ (hk b o e)
  have old : ∀ (g : Heap), (∀ b o, b ∉ [h'.objs.size] → (h'.push { cls := .type "range_iterator", data := .fields #[rawInt 0, rawInt (n : Int), rawInt 1] }).get? b = some o → g.get? b = some o) → Kp s.heap g := fun g hg b o e =>
    hg b o (fun hm => by
      have hb := Heap.lt_size (hk b o e)
      rw [List.mem_singleton.mp hm] at hb
      exact Nat.lt_irrefl _ hb) (hk' b o e)
  refine ⟨_, _, _, n, _, _, rfl, (Walks.range hh h'.objs.size 0 1 n).bound, by rw [sizeLine_eq]; omega, hI, ?_, ⟨?_, ?_⟩, ?_⟩
  · intro b hb
    rw [List.mem_singleton.mp hb]
    show _ < (Heap.push _ _).objs.size
    rw [Heap.size_push]; exact Nat.lt_succ_self _
  · intro C i v s₃ m₃ E' hC hP hN hm hk3 htk
    exact wpAny_pure ⟨rfl, ⟨s₃.heap, s₃.toks, rfl, fun _ _ e => e⟩⟩
  · intro C i v s₃ m₃ E' hC hP hp hN hm hk3 htk
    obtain ⟨hi, t', rfl⟩ := hP
    have hm' : m₃ x = some (.int (i : Int) t') := by rw [hm]; congr 2; omega
    exact wpAny_mono (helt C i t' s₃ m₃ E' hi hN hm' (old _ hk3)) (fun y s₄ hy => ⟨⟨i, t', by congr 1; omega, hy.1⟩, hy.2⟩) fun _ _ e => e
  · intro D h'' tk ys vs hD hl hpl hlen hP hF hk3
    have hf : vs.filter (fun _ => true) = vs := List.filter_eq_self.mpr fun _ _ => rfl
    rw [hf] at hF
    obtain ⟨hlen2, hR⟩ := paired_ex (n := n) 0 hF fun j v e => by
      obtain ⟨a, t, b⟩ := hP j v e
      exact ⟨by omega, t, by rw [b, Nat.zero_add]⟩
    refine h D h'' tk ys.toList ?_ hl (by rw [hlen2, hlen]) (fun i v e => by have := hR i v e; rwa [Nat.zero_add] at this) (old _ hk3)
    cases q : s.heap.get? D with
    | none => rfl
    | some o => have := hk' D o q; rw [hD] at this; cases this

/-- a name that a cell holds -/
theorem nmC {x : Str} {pos : Pos} {v : Value} {c : Addr} {Q : Value → Shared → Prop} (hv : s.heap.IsCell c (some v)) (h : Q v s) (hc : env.cells.lookup x = some c := by rfl)
    (hk : env.scope.kind = .function := by rfl) (hl : env.kindOf x = some .cell := by rfl) (hd : (x == ("__debug__" : Str)) = false := by decide) :
    wpAny (model prog w) A (eval (.Name x pos) env) Q E s := wpAny_Name (wpAny_loadName_cell hk hl hc hv h) hd
theorem nmF {x : Str} {pos : Pos} {v : Value} {c : Addr} {Q : Value → Shared → Prop} (hv : s.heap.IsCell c (some v)) (h : Q v s) (hc : env.cells.lookup x = some c := by rfl)
    (hk : env.scope.kind = .function := by rfl) (hl : env.kindOf x = some .free := by rfl) (hd : (x == ("__debug__" : Str)) = false := by decide) (hn : (x == ("__classdict__" : Str)) = false := by decide) :
    wpAny (model prog w) A (eval (.Name x pos) env) Q E s := wpAny_Name (wpAny_loadName_free hk hl hc hv h hn) hd



theorem nmLN {x : Str} {pos : Pos} {v : Value} {Q : Value → Shared → Prop} (F : s.heap.Ns env.locals m) (hv : m x = some v) (h : Q v s)
    (hk : env.scope.kind = .function := by rfl) (hl : env.kindOf x = some .local := by rfl) (hd : (x == ("__debug__" : Str)) = false := by decide) :
    wpAny (model prog w) A (eval (.Name x pos) env) Q E s := wpAny_Name (wpAny_loadName_local hk hl F hv h) hd

theorem intsAre_of {f : Nat → Int} : ∀ (ys : List Value) (k : Nat), (∀ (i : Nat) v, ys[i]? = some v → ∃ t, v = .int (f (k + i)) t) → IntsAre ys ((List.range' k ys.length).map f)
  | [], k, _ => .nil
  | y :: ys, k, h => by
    obtain ⟨t, rfl⟩ := h 0 y rfl
    rw [List.length_cons, List.range'_succ, List.map_cons]
    refine .cons _ t (intsAre_of ys (k + 1) fun i v e => ?_)
    obtain ⟨t', rfl⟩ := h (i + 1) v (by simpa using e)
    exact ⟨t', by rw [show k + 1 + i = k + (i + 1) by omega]⟩

def octF (x : Int) (k : Nat) : Int := ((x.fdiv 13).fdiv (256 ^ k)).fmod 256
def octetsOf (x : Int) : Array UInt8 := byteArr ((List.range (x.fmod 13).toNat).map (octF x))

theorem fmod_rng (x : Int) {b : Int} (hb : 0 < b) : 0 ≤ x.fmod b ∧ x.fmod b < b := ⟨Int.fmod_nonneg_of_pos _ hb, Int.fmod_lt_of_pos _ hb⟩

theorem law_octets_call {x : Int} {t : Tok} {Q : Value → Shared → Prop} (G : Gl mg mb s.heap) (hroom : A.depth < recursionLimit) (hh : A.handled = none)
    (h : ∀ h' t' k, Kp s.heap h' → Q (.bytes (octetsOf x) t') { s with heap := h', toks := k }) :
    wpAny (model prog w) A (call (.ref 127) [.int x t]) Q E s := by
  refine call_defC (binds := [("number", .int x t)]) hroom G.lim G.f_lo (by intro _ _; rfl) (by exact kinds_of (by kinds_ok)) fun h₁ tk F X => ?_
  have G₁ := G.fr F
  have hc : h₁.IsCell (s.heap.objs.size + 1) (some (.int x t)) := X.cell "number" _ rfl
  refine wpAny_execs_cons ?_
  walk_at "mw"
  walk_at "mw"
  refine nmB G₁ (G.free _ (by decide)) (by boot_fast) ?_
  refine PyProof.Rows.callWith_type1 ?_
  walk_at "mw"
  obtain ⟨r0, r1⟩ := fmod_rng x (b := 13) (by decide)
  obtain ⟨n, hn⟩ := Int.eq_ofNat_of_zero_le r0
  rw [hn] at r1
  refine ListComp_range (n := n) (cl := [("number", s.heap.objs.size + 1)]) (fun i y => ∃ t, y = .int (octF x i) t) hh (by walk_at "dp") (by rfl) (fun Q' hQ' => ?_) (fun C i ti s₃ m₃ E' hi hN hm hk => ?_) fun D h₂ tk₂ ys hD hl hlen hR hk => ?_
  · walk_at "mw"
    refine nmB G₁ (G.free _ (by decide)) (by boot_fast) ?_
    refine PyProof.Rows.callWith_type1 ?_
    repeat walk_at "mw"
    refine nmC hc ?_
    walk_at "mw"
    refine mod_int' (by decide) (wpAny_items_nil (call_range_1 ?_))
    rw [hn]
    exact hQ' _ _ _ _ _ _ (IsRange.new _ _ _ _ _ _ _) fun b o e => Heap.get?_push_of_some _ e
  · repeat walk_at "mw"
    refine nmC (hc.keeps hk) ?_
    walk_at "mw"
    refine floordiv_int (by decide) ?_
    repeat walk_at "mw"
    refine nmLN hN hm ?_
    have h256 : (Builtin.Int.intBits 256 : Int) * (i : Int) ≤ 2 ^ 27 := by
      rw [show (Builtin.Int.intBits 256 : Int) = 9 from by decide +kernel]; omega
    refine pow_int (by walk_at "dp") h256 ?_
    have hpos : (0 : Int) < 256 ^ (i : Int).toNat := Int.pow_pos (by decide)
    refine floordiv_int (Int.ne_of_gt hpos) ?_ (.inl (PyProof.noPylong_of_log2 ?_))
    · walk_at "mw"
      refine mod_int' (by decide) ?_
      exact ⟨⟨_, rfl⟩, _, _, rfl, fun _ _ e => e⟩
    · rw [Int.toNat_natCast, Int.natAbs_pow]
      have hne : Int.natAbs 256 ^ i ≠ 0 := Nat.ne_of_gt (Nat.pow_pos (by decide))
      refine Nat.lt_of_lt_of_le ((Nat.log2_lt (k := 8 * 13) hne).mpr ?_) (by decide)
      calc Int.natAbs 256 ^ i = 2 ^ (8 * i) := by rw [show Int.natAbs 256 = 2 ^ 8 from rfl, ← Nat.pow_mul]
        _ < 2 ^ (8 * 13) := Nat.pow_lt_pow_right (by decide) (by walk_at "dp")
  · refine wpAny_items_nil ?_
    have hi : IntsAre ys ((List.range n).map (octF x)) := by
      have := intsAre_of (f := octF x) ys 0 fun i v e => by rw [Nat.zero_add]; exact hR i v e
      rwa [hlen, ← List.range_eq_range'] at this
    refine call_bytes_ints hl hi (fun y hy => ?_) (by rw [hlen, sizeLine_eq]; omega) hh fun h₃ t₃ k₃ hk₃ => ?_
    · obtain ⟨k, _, rfl⟩ := List.mem_map.mp hy
      exact fmod_rng _ (by decide)
    · have e : octetsOf x = byteArr ((List.range n).map (octF x)) := by
        unfold octetsOf; rw [hn]; rfl
      rw [e] at h
      exact h _ _ _ fun b o e => hk₃ _ _ (hk _ _ (F.keep _ _ e))
end
end

section
section
variable {prog : Program} {w : World} {A : Around} {E : Value → Shared → Prop} {s : Shared} {env : Env} {L : Addr} {h₀ : Heap} {m mg mb : Str → Option Value}

/-- a for over n items by an invariant of the item's number; no item raises, leaves or breaks -/
theorem For_inv {target iter : Expr} {body : List Stmt} {pos : Pos} {Q : Flow → Shared → Prop} {n : Nat} (J : Addr → Nat → Shared → Prop)
    (hi : wpAny (model prog w) A (eval iter env) (fun x s₁ => wpAny (model prog w) A (pyIter x) (fun it s₂ => ∃ I, it = .ref I ∧ J I 0 s₂) E s₁) E s)
    (hstep : ∀ I i s, i < n → J I i s → wpAny (model prog w) A (pyNext (.ref I)) (fun r s₁ => match r with
      | none => False
      | some v => wpAny (model prog w) A (assign target env v) (fun _ s₂ => wpAny (model prog w) A (execs body env) (fun f s₃ => match f with | .next => J I (i + 1) s₃ | _ => False) (fun _ _ => False) s₂) (fun _ _ => False) s₁) (fun _ _ => False) s)
    (hend : ∀ I s, J I n s → wpAny (model prog w) A (pyNext (.ref I)) (fun r s₁ => match r with | none => Q .next s₁ | some _ => False) (fun _ _ => False) s)
    (hs : ∀ x, foldedSetIterable iter env x = pure x := by intro _; rfl) (ht : ∀ it v, letOwnedTupleGo target it v = pure () := by intro _ _; rfl) :
    wpAny (model prog w) A (exec (.For target iter body [] pos) env) Q E s := by
  refine wpAny_For (wpAny_mono hi (fun x s₁ h₁ => wpAny_mono h₁ (fun it s₂ h₂ => ?_) fun _ _ e => e) fun _ _ e => e) hs
  obtain ⟨I, rfl, hJ⟩ := h₂
  refine codeAny_forLoop (fun k s => ∃ i, i ≤ n ∧ k = n - i ∧ J I i s) (fun k s hk => ?_) n ⟨0, Nat.zero_le _, rfl, hJ⟩ (ht _)
  obtain ⟨i, hle, rfl, hJi⟩ := hk
  by_cases hlt : i < n
  · refine wpAny_mono (hstep I i s hlt hJi) (fun r s₁ hr => ?_) fun _ _ f => f.elim
    cases r with
    | none => exact hr.elim
    | some v =>
      refine wpAny_mono hr (fun _ s₂ h₂ => wpAny_mono h₂ (fun f s₃ h₃ => ?_) fun _ _ f => f.elim) fun _ _ f => f.elim
      cases f with
      | next => exact ⟨n - (i + 1), by omega, i + 1, hlt, rfl, h₃⟩
      | brk => exact h₃.elim
      | cont => exact h₃.elim
      | ret v => exact h₃.elim
  · have : i = n := by omega
    subst this
    refine wpAny_mono (hend I s hJi) (fun r s₁ hr => ?_) fun _ _ f => f.elim
    cases r with
    | none => exact wpAny_execs_nil hr
    | some v => exact hr.elim
end
end

section
theorem add_xor_and : ∀ (n a b : Nat), a < n → a + b = (a ^^^ b) + 2 * (a &&& b)
  | 0, _, _, h => absurd h (Nat.not_lt_zero _)
  | n + 1, a, b, h => by
    by_cases h0 : a = 0
    · subst h0; simp
    · have ih := add_xor_and n (a / 2) (b / 2) (by walk_at "dp")
      have e1 : (a ^^^ b) / 2 = (a / 2) ^^^ (b / 2) := Nat.xor_div_two
      have e2 : (a &&& b) / 2 = (a / 2) &&& (b / 2) := Nat.and_div_two
      rw [← e1, ← e2] at ih
      have m1 : (a ^^^ b) % 2 = (a % 2 + b % 2) % 2 := by
        rcases Nat.mod_two_eq_zero_or_one a with ha | ha <;> rcases Nat.mod_two_eq_zero_or_one b with hb | hb <;>
          · have := Nat.xor_mod_two_pow (a := a) (b := b) (n := 1)
            simp only [Nat.pow_one, ha, hb] at this
            rw [this, ha, hb]; decide
      have m2 : (a &&& b) % 2 = (a % 2) * (b % 2) := by
        rcases Nat.mod_two_eq_zero_or_one a with ha | ha <;> rcases Nat.mod_two_eq_zero_or_one b with hb | hb <;>
          · have := Nat.and_mod_two_pow (a := a) (b := b) (n := 1)
            simp only [Nat.pow_one, ha, hb] at this
            rw [this, ha, hb]; decide
      rcases Nat.mod_two_eq_zero_or_one a with ha | ha <;> rcases Nat.mod_two_eq_zero_or_one b with hb | hb <;> rw [ha, hb] at m1 m2 <;> omega

theorem bitXor_nat (a b : Nat) : Builtin.bitXor (a : Int) (b : Int) = ((a ^^^ b : Nat) : Int) := by
  rw [PyProof.Rows.bitXor_and]
  have e : Builtin.bitAnd (a : Int) (b : Int) = ((a &&& b : Nat) : Int) := by
    unfold Builtin.bitAnd
    rw [decide_eq_true (Int.natCast_nonneg a), decide_eq_true (Int.natCast_nonneg b)]
    rfl
  rw [e]
  have := add_xor_and (a + 1) a b (Nat.lt_succ_self _)
  omega

/-- the n octets of a number, the highest first -/
def enc (n X : Nat) : List UInt8 := ((List.range n).map fun i => (X / 256 ^ i % 256).toUInt8).reverse
theorem enc_length (n X : Nat) : (enc n X).length = n := by simp [enc]

def xorL (a b : List UInt8) : List UInt8 := List.zipWith (· ^^^ ·) a b

theorem xor_digit (X Y i : Nat) : (X ^^^ Y) / 256 ^ i % 256 = (X / 256 ^ i % 256) ^^^ (Y / 256 ^ i % 256) := by
  have e : ∀ Z : Nat, Z / 256 ^ i = Z >>> (8 * i) := fun Z => by rw [Nat.shiftRight_eq_div_pow, Nat.pow_mul]
  rw [e, e, e, Nat.shiftRight_xor_distrib, show (256 : Nat) = 2 ^ 8 from rfl, Nat.xor_mod_two_pow]

theorem toUInt8_xor (a b : Nat) : (a ^^^ b).toUInt8 = a.toUInt8 ^^^ b.toUInt8 := by
  first
    | exact UInt8.ofNat_xor a b
    | (apply UInt8.toNat_inj.mp; simp)

theorem xorL_enc (n X Y : Nat) : xorL (enc n X) (enc n Y) = enc n (X ^^^ Y) := by
  unfold xorL enc
  rw [← List.reverse_zipWith (by simp)]
  congr 1
  rw [List.zipWith_map]
  refine List.ext_getElem (by simp) fun i h1 h2 => ?_
  simp only [List.getElem_zipWith, List.getElem_map, List.getElem_range]
  rw [xor_digit, toUInt8_xor]

theorem enc_inj {n X Y : Nat} (hX : X < 256 ^ n) (hY : Y < 256 ^ n) (h : enc n X = enc n Y) : X = Y := by
  have h' : (List.range n).map (fun i => (X / 256 ^ i % 256).toUInt8) = (List.range n).map (fun i => (Y / 256 ^ i % 256).toUInt8) := List.reverse_inj.mp h
  have key : ∀ i, i < n → X / 256 ^ i % 256 = Y / 256 ^ i % 256 := fun i hi => by
    have := congrArg (fun l => l[i]?) h'
    simp [hi] at this
    have h3 := congrArg UInt8.toNat this
    simpa using h3
  have main : ∀ k, k ≤ n → X % 256 ^ k = Y % 256 ^ k := fun k => by
    induction k with
    | zero => intro _; simp [Nat.mod_one]
    | succ k ih =>
      intro hk
      rw [Nat.pow_succ, Nat.mod_mul, Nat.mod_mul, ih (by walk_at "dp"), key k (by walk_at "dp")]
  have := main n (Nat.le_refl _)
  rwa [Nat.mod_eq_of_lt hX, Nat.mod_eq_of_lt hY] at this
end

section
theorem u8_list_inj : ∀ {a b : List UInt8}, a.map (fun c => ((c.toNat : Nat) : Int)) = b.map (fun c => ((c.toNat : Nat) : Int)) → a = b
  | [], [], _ => rfl
  | [], _ :: _, h => by simp at h
  | _ :: _, [], h => by simp at h
  | x :: a, y :: b, h => by
    simp only [List.map_cons, List.cons.injEq] at h
    have e : x = y := UInt8.toNat_inj.mp (by exact_mod_cast h.1)
    rw [e, u8_list_inj h.2]

theorem low_enc {X n : Nat} (h : X < 256 ^ n) : (KTBy.low (X : Int) n).reverse = enc n X := by
  unfold enc
  congr 1
  apply u8_list_inj
  have h1 : (X : Int) < 256 ^ n := by rw [KTBy.p256]; exact_mod_cast h
  rw [KTBy.low_ints (by walk_at "dp") h1, List.map_map]
  refine List.map_congr_left fun i _ => ?_
  show (X : Int) / 256 ^ i % 256 = (((X / 256 ^ i % 256).toUInt8.toNat : Nat) : Int)
  rw [KTBy.p256]
  have : (X / 256 ^ i % 256).toUInt8.toNat = X / 256 ^ i % 256 := by
    show (UInt8.ofNat _).toNat = _
    rw [UInt8.toNat_ofNat']; omega
  rw [this]; rfl

section
variable {prog : Program} {w : World} {A : Around} {E : Value → Shared → Prop} {s : Shared} {env : Env} {L : Addr} {h₀ : Heap} {m mg mb : Str → Option Value}

/-- X.to_bytes(k, 'big') -/
theorem to_bytes_big {X k : Nat} {t u v : Tok} {Q : Value → Shared → Prop} (hk : k ≤ 64) (h1 : X < 256 ^ k) (h : ∀ t' k', Q (.bytes (enc k X).toArray t') { s with toks := k' }) :
    wpAny (model prog w) A (call (.builtin "int.to_bytes") [.int (X : Int) t, .int (k : Int) u, .str (PySem.Str.ofString "big") v]) Q E s := by
  refine wpAny_call_entry KTBy.slot (typeIs_int s X t) KTBy.entry ?_ (KTBy.args _ _ _)
  have hX : (X : Int) < 256 ^ k := by rw [KTBy.p256]; exact_mod_cast h1
  have hb := KTBy.bits_le (k := k) rfl (by walk_at "dp") hX
  show wpAny _ _ (Builtin.Int.intOfSelf (.int X t) >>= fun y => _) _ _ s
  refine wpAny_bind (wpAny_of_eq (a := (X : Int)) rfl ?_)
  refine wpAny_bind (wpAny_of_eq (a := [some (.int (k : Int) u), some (.str (PySem.Str.ofString "big") v), none]) (by kernel_rfl) ?_)
  refine wpAny_bind (wpAny_of_eq (a := (k : Int)) rfl ?_)
  refine KTBy.if_not (by show (decide ((k : Int) < -(2 ^ 63 : Int)) || decide ((k : Int) ≥ 2 ^ 63)) = false; simp; omega) ?_
  refine wpAny_bind (wpAny_of_eq (a := PySem.Str.ofString "big") (by kernel_rfl) ?_)
  refine wpAny_bind (wpAny_of_eq (a := false) rfl ?_)
  refine wpAny_bind (wpAny_of_eq (a := false) (by kernel_rfl) ?_)
  refine wpAny_ite_false (decide_eq_false (by walk_at "dp")) ?_
  refine wpAny_ite_false (decide_eq_false (by walk_at "dp")) ?_
  refine wpAny_ite_false (decide_eq_false (by rw [sizeLine_eq]; omega)) ?_
  refine KTBy.if_not (by show (decide ((X : Int) < 0) && !false) = false; rw [decide_eq_false (by walk_at "dp")]; rfl) ?_
  refine KTBy.if_not (by show (_ && decide ((Builtin.Int.intBits X : Int) > 8 * (k : Int))) = false; rw [decide_eq_false (by walk_at "dp"), Bool.and_false]) ?_
  have e : (List.reverse (KTBy.low (X : Int) (Int.toNat (k : Int)))) = enc k X := low_enc h1
  refine wpAny_bind ?_
  show wpAny _ _ (mkBytes (List.reverse (KTBy.low (X : Int) (Int.toNat (k : Int)))).toArray) _ _ _
  rw [e]
  exact wpAny_mkBytes (wpAny_pure ⟨_, rfl, h _ _⟩) (by rw [List.size_toArray, enc_length, sizeLine_eq]; omega)

/-- a store into a local -/
theorem stL {x : Str} {v : Value} {Q : Unit → Shared → Prop} (F : Fr h₀ env.locals s.heap m)
    (h : ∀ h', Fr h₀ env.locals h' (fun y => if y = x then some v else m y) → Heap.SameBut env.locals s.heap h' → Q () { s with heap := h', toks := s.toks + 1 })
    (hl : env.kindOf x = some .local := by rfl) (hp : (env.scope.kind == .class || (env.scope.kind == .module && env.locals != env.globals)) = false := by rfl) :
    wpAny (model prog w) A (storeName env x v) Q E s :=
  wpAny_storeName_local hl F.ns (fun h' hn hs => h h' (F.set hn hs) hs) hp
end
end

section
section
variable {prog : Program} {w : World} {A : Around} {E : Value → Shared → Prop} {s : Shared} {env : Env} {L : Addr} {h₀ : Heap} {m mg mb : Str → Option Value}


def xorAll (rs : List Nat) : Nat := rs.foldl (· ^^^ ·) 0
theorem foldl_xor_lt {n : Nat} : ∀ (rs : List Nat) (a : Nat), a < 256 ^ n → (∀ r ∈ rs, r < 256 ^ n) → rs.foldl (· ^^^ ·) a < 256 ^ n
  | [], a, ha, _ => ha
  | r :: rs, a, ha, h => by
    refine foldl_xor_lt rs _ ?_ fun x hx => h x (.tail _ hx)
    have hr := h r (.head _)
    have e : (256 : Nat) ^ n = 2 ^ (8 * n) := by rw [Nat.pow_mul]
    rw [e] at ha hr ⊢
    exact Nat.xor_lt_two_pow ha hr
theorem xorAll_lt {n : Nat} {rs : List Nat} (h : ∀ r ∈ rs, r < 256 ^ n) : xorAll rs < 256 ^ n := foldl_xor_lt rs 0 (Nat.pow_pos (by decide)) h
theorem fr_ext {h h' : Heap} {I : Addr} (F : Fr h₀ L h m) (S : Heap.ExtBut I h h') (hI : I ≠ L) (h0 : h₀.objs.size ≤ I) : Fr h₀ L h' m :=
  ⟨F.ns.extBut S (Ne.symm hI), fun b o e => S b o (Nat.ne_of_lt (Nat.lt_of_lt_of_le (Heap.lt_size e) h0)) (F.keep b o e), F.above⟩
theorem xorAll_snoc (rs : List Nat) (i : Nat) (hi : i < rs.length) : xorAll (rs.take (i + 1)) = xorAll (rs.take i) ^^^ rs[i] := by
  unfold xorAll
  rw [List.take_add_one, List.getElem?_eq_getElem hi, List.foldl_append]
  rfl

set_option maxRecDepth 4000 in
theorem law_mixed_call {l : Addr} {vs : List Value} {rs : List Nat} {n : Nat} {t : Tok} {Q : Value → Shared → Prop} (G : Gl mg mb s.heap) (hroom : A.depth < recursionLimit) (hh : A.handled = none)
    (hl : s.heap.IsList l vs.toArray) (hi : IntsAre vs (rs.map fun r : Nat => (r : Int))) (hr : ∀ r ∈ rs, r < 256 ^ n) (hn : n ≤ 16)
    (h : ∀ h' t' k, Kp s.heap h' → Q (.bytes (enc n (xorAll rs)).toArray t') { s with heap := h', toks := k }) :
    wpAny (model prog w) A (call (.ref 134) [.ref l, .int n t]) Q E s := by
  refine call_def (binds := [("rows", .ref l), ("octets", .int n t)]) hroom G.lim G.f_lm (by intro _ _; rfl) (by exact locs rfl) fun h₁ F => ?_
  have G₁ := G.fr F
  have hl₁ : h₁.IsList l vs.toArray := isList_kp hl F.keep
  have hlen : vs.length = rs.length := by rw [hi.length, List.length_map]
  refine wpAny_execs_cons ?_
  repeat walk_at "mw"
  refine stL F fun h₂ F₂ S₂ => ?_
  dsimp only
  have hl₂ : h₂.IsList l vs.toArray := isList_kp hl F₂.keep
  refine wpAny_execs_cons (For_inv (n := rs.length) (fun I i s' => ∃ h' k m', s' = { s with heap := h', toks := k } ∧ Fr s.heap s.heap.objs.size h' m' ∧ h'.IsListIter I l i ∧ h'.IsList l vs.toArray ∧ s.heap.objs.size < I ∧ I ≠ l ∧
      m' "rows" = some (.ref l) ∧ m' "octets" = some (.int n t) ∧ ∃ tt, m' "total" = some (.int (xorAll (rs.take i) : Nat) tt)) ?_ (fun I i s' hi' hJ => ?_) fun I s' hJ => ?_)
  · refine nmL F₂ rfl (wpAny_pyIter_list hl₂ ⟨_, rfl, _, _, _, rfl, F₂.keeps fun b o e => Heap.get?_push_of_some _ e, ⟨_, Heap.get?_push_size _ rfl, rfl, rfl⟩, hl₂.push _, ?_, ?_, rfl, rfl, _, rfl⟩)
    · exact F₂.ns.lt
    · obtain ⟨o, a, _⟩ := hl₂
      exact Nat.ne_of_gt (Heap.lt_size a)
  · obtain ⟨h', k, m', rfl, F', it, hl', hIL, hIl, m1, m2, tt, m3⟩ := hJ
    obtain ⟨v, hv⟩ : ∃ v, vs[i]? = some v := ⟨vs[i]'(by walk_at "dp"), List.getElem?_eq_getElem (by walk_at "dp")⟩
    obtain ⟨x, tx, rfl, hx⟩ := IntsAre.at hi i v hv
    have hx' : rs[i]? = some (rs[i]'(by walk_at "dp")) := List.getElem?_eq_getElem (by walk_at "dp")
    rw [List.getElem?_map, hx'] at hx
    simp only [Option.map_some, Option.some.injEq] at hx
    subst hx
    refine wpAny_pyNext_list_item it hl' (by simpa using hv) fun h'' it' S' => ?_
    have F'' : Fr s.heap s.heap.objs.size h'' m' := fr_ext F' S'.extBut (Nat.ne_of_gt hIL) (Nat.le_of_lt hIL)
    have hl'' : h''.IsList l vs.toArray := hl'.extBut S'.extBut (Ne.symm hIl)
    have hlL : l ≠ s.heap.objs.size := by
      obtain ⟨o, a, _⟩ := hl
      exact Nat.ne_of_lt (Heap.lt_size a)
    dsimp only
    refine wpAny_assign_Name (stL F'' fun h₃ F₃ S₃ => ?_)
    refine wpAny_execs_cons (wpAny_AugAssign_Name ?_)
    refine wpAny_loadName_local rfl rfl F₃.ns m3 ?_
    refine nmL F₃ rfl (ixor_int ?_)
    refine stL F₃ fun h₄ F₄ S₄ => ?_
    refine wpAny_execs_nil ?_
    dsimp only at F₄ ⊢
    refine ⟨h₄, _, _, rfl, F₄, ?_, ?_, hIL, hIl, m1, m2, ?_⟩
    · exact (it'.extBut S₃.extBut (Nat.ne_of_gt hIL)).extBut S₄.extBut (Nat.ne_of_gt hIL)
    · exact (hl''.extBut S₃.extBut hlL).extBut S₄.extBut hlL
    · exact ⟨_, congrArg (fun z => some (Value.int z _)) ((bitXor_nat _ _).trans (congrArg _ (xorAll_snoc rs i hi').symm))⟩
  · obtain ⟨h', k, m', rfl, F', it, hl', hIL, hIl, m1, m2, tt, m3⟩ := hJ
    refine wpAny_pyNext_list_end hh it hl' (by simp [hlen]) fun h'' S' => ?_
    have F'' : Fr s.heap s.heap.objs.size h'' m' := fr_ext F' S' (Nat.ne_of_gt hIL) (Nat.le_of_lt hIL)
    rw [List.take_length] at m3
    dsimp only
    refine wpAny_execs_cons (wpAny_Return_some ?_)
    refine MethodCall_ (nmL F'' m3 ?_)
    refine KTBy.method ?_
    refine callWith_method1 ?_
    walk_at "mw"
    refine nmL F'' m2 ?_
    repeat walk_at "mw"
    refine to_bytes_big (by walk_at "dp") ?_ fun t' k' => ?_
    · exact xorAll_lt hr
    · exact h _ _ _ F''.keep
end
end

section
set_option maxRecDepth 8000
theorem bn_typeCall : checkTypeCall "bytes" ⟨[], []⟩ = pure () := by kernel_rfl
theorem bn_newCall : checkBuiltinCall "bytes.__new__" ⟨[.type "bytes"], []⟩ = pure () := by kernel_rfl
theorem bn_bind : Builtin.Bytes.bindOptional "bytes.__new__" "bytes" ["source", "encoding", "errors"] [] [] = pure [none, none, none] := by kernel_rfl
section
variable {prog : Program} {w : World} {A : Around} {E : Value → Shared → Prop} {s : Shared} {env : Env} {L : Addr} {h₀ : Heap} {m mg mb : Str → Option Value}


theorem bn_new {Q : Value → Shared → Prop} (hQ : ∀ t k, Q (.bytes #[] t) { s with toks := k }) :
    codeAny (model prog w) A (.call (.builtin "bytes.__new__") ⟨[.type "bytes"], []⟩) (wants Q E) s := by
  refine codeAny_of_tree ?_
  show wpAny _ A.in1 (do checkBuiltinCall "bytes.__new__" ⟨[.type "bytes"], []⟩; again (.builtin "bytes.__new__" ⟨[.type "bytes"], []⟩)) _ _ s
  refine wpAny_bind (wpAny_of_eq bn_newCall (wpAny_pure ⟨plainId_quiet F.bm_plain _, codeAny_builtin F.bm_entry ?_⟩))
  rw [Around.under_plainId F.bm_plain _]
  unfold Builtin.«bytes.__new__»
  refine wpAny_bind (wpAny_of_eq (a := true) rfl ?_)
  refine bm_if_false rfl ?_
  refine wpAny_bind (wpAny_of_eq F.bm_sub ?_)
  refine bm_if_false rfl ?_
  refine wpAny_bind (wpAny_of_eq bn_bind ?_)
  refine wpAny_bind (wpAny_of_eq (a := ()) rfl ?_)
  refine wpAny_bind (wpAny_of_eq (a := ()) rfl ?_)
  refine bm_if_false rfl ?_
  refine wpAny_bind (wpAny_mkBytes ?_ (by show (0 : Nat) ≤ _; exact Nat.zero_le _))
  show wpAny _ _ (if (Value.type "bytes" == Value.type "bytes") = true then _ else _) _ _ _
  refine bm_if_true (by decide) ?_
  first
    | exact wpAny_pure (hQ _ _)
    | exact wpAny_bind (wpAny_pure (wpAny_pure (hQ _ _)))

theorem call_bytes_nil {Q : Value → Shared → Prop} (hQ : ∀ t k, Q (.bytes #[] t) { s with toks := k }) : wpAny (model prog w) A (call (.type "bytes") []) Q E s := by
  refine callType_codes (Q₁ := fun obj s₁ => s₁.TypeIs obj "bytes" ∧ Q obj s₁) F.bm_called bn_typeCall F.entry_object_init
    (bn_new fun t k => ⟨PySem.W.typeIs_bytes _ _ _, hQ t k⟩) fun obj s₁ h₁ => ?_
  exact ⟨h₁.1, F.args_object_init_1 obj, object_init_meets F.bm_called.init.lookup F.bm_called.made (by decide) prog w A.in1 _ s₁ ⟨h₁.1, rfl, h₁.2⟩⟩

theorem isi_bytes {b : Array UInt8} {t : Tok} {Q : Value → Shared → Prop} (h : ∀ tk, Q (.bool true) { s with toks := tk }) : wpAny (model prog w) A (call (.builtin "isinstance") [.bytes b t, .type "bytes"]) Q E s :=
  kia_one (K := []) kitx_bytes (fun _ _ e => by cases e) trivial (by decide +kernel) (by intro e; cases e) h
theorem isi_int {b : Int} {t : Tok} {Q : Value → Shared → Prop} (h : ∀ tk, Q (.bool true) { s with toks := tk }) : wpAny (model prog w) A (call (.builtin "isinstance") [.int b t, .type "int"]) Q E s :=
  kia_one (K := []) kitx_int (fun _ _ e => by cases e) trivial (by decide +kernel) (by intro e; cases e) h
theorem isi_bool {b : Bool} {Q : Value → Shared → Prop} (h : ∀ tk, Q (.bool true) { s with toks := tk }) : wpAny (model prog w) A (call (.builtin "isinstance") [.bool b, .type "bool"]) Q E s :=
  kia_one (K := []) kitx_bool (fun _ _ e => by cases e) trivial (by decide +kernel) (by intro e; cases e) h

theorem law_same_call {b c : Array UInt8} {t u : Tok} {Q : Value → Shared → Prop} (G : Gl mg mb s.heap) (hroom : A.depth < recursionLimit)
    (h : ∀ h' k, Kp s.heap h' → Q (.bool (b.toList == c.toList)) { s with heap := h', toks := k }) :
    wpAny (model prog w) A (call (.ref 141) [.bytes b t, .bytes c u]) Q E s := by
  refine call_def (binds := [("told", .bytes b t), ("due", .bytes c u)]) hroom G.lim G.f_ls (by intro _ _; rfl) (by exact locs rfl) fun h₁ F => ?_
  have G₁ := G.fr F
  refine wpAny_execs_cons (wpAny_Return_some (wpAny_And2 ?_))
  walk_at "mw"
  refine nmB G₁ (G.free _ (by decide)) (by boot_fast) ?_
  walk_at "mw"
  walk_at "mw"
  refine nmL F rfl ?_
  walk_at "mw"
  refine nmB G₁ (G.free _ (by decide)) (by boot_fast) ?_
  refine wpAny_items_nil (isi_bytes fun tk => wpAny_truthy_bool ?_)
  dsimp only
  rw [if_pos rfl]
  walk_at "mw"
  refine nmL F rfl (nmL F rfl (eq_bytes ?_))
  exact h _ _ F.keep

theorem round_bits_call {t u : Tok} {Q : Value → Shared → Prop} (G : Gl mg mb s.heap) (hroom : A.depth < recursionLimit)
    (h : ∀ h' t' k, Kp s.heap h' → Q (.int 2 t') { s with heap := h', toks := k }) :
    wpAny (model prog w) A (call (.ref 21) [.int 15 t, .int 8 u]) Q E s := by
  refine call_def (binds := [("n", .int 15 t), ("radix_bits", .int 8 u)]) hroom G.lim G.f_rb (by intro _ _; rfl) (by exact locs rfl) fun h₁ F => ?_
  refine wpAny_execs_cons ?_
  repeat walk_at "mw"
  refine nmL F rfl (nmL F rfl (add_int ?_))
  repeat walk_at "mw"
  refine sub_int ?_
  refine nmL F rfl ?_
  refine floordiv_int (by decide) ?_
  exact h _ _ _ F.keep

theorem bits_to_bytes_call {t : Tok} {Q : Value → Shared → Prop} (G : Gl mg mb s.heap) (hroom : A.depth + 1 < recursionLimit)
    (h : ∀ h' t' k, Kp s.heap h' → Q (.int 2 t') { s with heap := h', toks := k }) :
    wpAny (model prog w) A (call (.ref 28) [.int 15 t]) Q E s := by
  refine call_def (binds := [("n", .int 15 t)]) (Nat.lt_of_succ_lt hroom) G.lim G.f_bb (by intro _ _; rfl) (by exact locs rfl) fun h₁ F => ?_
  have G₁ := G.fr F
  refine wpAny_execs_cons ?_
  walk_at "mw"
  walk_at "mw"
  refine nmG G₁ G.n_rb (callWith_F G₁.f_rb.at ?_)
  walk_at "mw"
  refine nmL F rfl ?_
  repeat walk_at "mw"
  refine ⟨G₁.f_rb.at, round_bits_call G₁ hroom fun h₂ t₂ k₂ K₂ => ?_⟩
  exact h _ _ _ fun b o e => K₂ _ _ (F.keep _ _ e)

def saltOf (flag : Bool) (ident : Nat) : List UInt8 := if flag then [] else [115, 104, 97, 109, 105, 114] ++ enc 2 ident

theorem get_salt_call {flag : Bool} {ident : Nat} {t : Tok} {Q : Value → Shared → Prop} (G : Gl mg mb s.heap) (hroom : A.depth + 2 < recursionLimit) (hid : ident < 65536)
    (h : ∀ h' t' k, Kp s.heap h' → Q (.bytes (saltOf flag ident).toArray t') { s with heap := h', toks := k }) :
    wpAny (model prog w) A (call (.ref 49) [.int (ident : Int) t, .bool flag]) Q E s := by
  refine call_def (binds := [("identifier", .int (ident : Int) t), ("extendable", .bool flag)]) (by walk_at "dp") G.lim G.f_gs (by intro _ _; rfl) (by exact locs rfl) fun h₁ F => ?_
  have G₁ := G.fr F
  refine wpAny_execs_cons ?_
  walk_at "mw"
  refine wpAny_isTrue_value (nmL F rfl (wpAny_truthy_bool ?_))
  cases flag with
  | true =>
    rw [if_pos rfl]
    refine wpAny_execs_cons ?_
    walk_at "mw"
    walk_at "mw"
    refine nmB G₁ (G.free _ (by decide)) (by boot_fast) ?_
    refine PyProof.Rows.callWith_type0 (call_bytes_nil fun t' k => ?_)
    exact h _ _ _ F.keep
  | false =>
    rw [if_neg (by decide)]
    refine wpAny_execs_nil ?_
    walk_at "mw"
    walk_at "mw"
    walk_at "mw"
    obtain ⟨ti, hi⟩ := G.idl
    obtain ⟨tc, hc⟩ := G.cus
    refine nmG G₁ G.n_bb (callWith_F G₁.f_bb.at ?_)
    walk_at "mw"
    refine nmG G₁ hi (wpAny_items_nil ⟨G₁.f_bb.at, bits_to_bytes_call G₁ (by show A.depth + 1 + 1 < _; exact hroom) fun h₂ t₂ k₂ K₂ => ?_⟩)
    have F₂ := F.keeps K₂
    refine stL F₂ fun h₃ F₃ S₃ => ?_
    have G₃ := G.fr F₃
    dsimp only
    refine wpAny_execs_cons ?_
    walk_at "mw"
    walk_at "mw"
    refine nmG G₃ hc ?_
    refine MethodCall_ (nmL F₃ rfl (KTBy.method ?_))
    refine callWith_method1 ?_
    walk_at "mw"
    refine nmL F₃ rfl ?_
    repeat walk_at "mw"
    refine to_bytes_big (k := 2) (by walk_at "dp") (by walk_at "dp") fun t' k' => ?_
    refine KBy.add_bytes (by simp only [List.size_toArray, enc_length]; decide) fun t'' k'' => ?_
    have e : (#[115, 104, 97, 109, 105, 114] : Array UInt8) ++ (enc 2 ident).toArray = (saltOf false ident).toArray := by
      simp [saltOf]
    rw [e]
    exact h _ _ _ F₃.keep
end
end

section
set_option maxRecDepth 8000
/-- the kinds of a question's parts -/
abbrev Part := List UInt8 ⊕ Int

def isPart : Part → Value → Bool
  | .inl b, .bytes a _ => a.toList == b
  | .inr i, .int j _ => j == i
  | _, _ => false
theorem isPart_inl {b : List UInt8} {v : Value} (h : isPart (.inl b) v = true) : ∃ t, v = .bytes b.toArray t := by
  cases v <;> simp_all [isPart]
  rename_i a t
  exact Array.toList_inj.mp (by simpa using h)
theorem isPart_inr {i : Int} {v : Value} (h : isPart (.inr i) v = true) : ∃ t, v = .int i t := by
  cases v <;> simp_all [isPart]
theorem isPart_inj (v : Value) (a b : Part) (ha : isPart a v = true) (hb : isPart b v = true) : a = b := by
  cases a with
  | inl x =>
    obtain ⟨t, rfl⟩ := isPart_inl ha
    cases b with
    | inl y =>
      obtain ⟨u, h⟩ := isPart_inl hb
      have := (Value.bytes.inj h).1
      simp at this
      rw [this]
    | inr j => obtain ⟨u, h⟩ := isPart_inr hb; cases h
  | inr i =>
    obtain ⟨t, rfl⟩ := isPart_inr ha
    cases b with
    | inl y => obtain ⟨u, h⟩ := isPart_inl hb; cases h
    | inr j => obtain ⟨u, h⟩ := isPart_inr hb; cases h; rfl

def bytesHash (w : World) (b : List UInt8) : Int := reduceHash (if (b.toArray.map (·.toNat)).isEmpty = true then 0 else reduceHash (w.params.strHash (b.toArray.map (·.toNat))))
def partHash (w : World) : Part → Int
  | .inl b => bytesHash w b
  | .inr i => hashInt i

section
variable {prog : Program} {w : World} {A : Around} {E : Value → Shared → Prop} {s : Shared}
theorem pyHash_bytes {b : List UInt8} {t : Tok} {Q : Int → Shared → Prop} (h : Q (bytesHash w b) { s with toks := s.toks + 1 }) : wpAny (model prog w) A (pyHash (.bytes b.toArray t)) Q E s := by
  show wpAny _ _ (pyHashByItsType (.bytes b.toArray t)) _ _ _
  refine pyHash_slot (PySem.W.typeIs_bytes s _ _) FB.slot_bytes_hash FB.entry_bytes_hash (FB.args_bytes_hash_1 _) rfl (.inl rfl) ?_
  show wpAny _ _ (strHash ⟨b.toArray.map (·.toNat)⟩ >>= fun i => (do ret (← mkInt i))) _ _ s
  unfold strHash
  refine wpAny_bind (wpAny_bind (wpAny_askSetting (wpAny_pure ?_)))
  refine wpAny_bind (wpAny_mkInt (wpAny_pure ?_))
  exact ⟨_, _, rfl, h⟩

theorem gives_bytes_int (b : Array UInt8) (t : Tok) (i : Int) (u : Tok) : Gives (Builtin.«bytes.__eq__» ⟨[.bytes b t, .int i u], []⟩) (.val .notImplemented) := by
  refine .of_wp fun M A E s Q hq => ?_
  show wpAny M A (isInstance (.int i u) (.type "bytes") >>= fun r => _) _ E s
  refine wpAny_bind (wpAny_isInstance (typeIs_int s i u) F.sub_int_bytes ?_)
  show wpAny M A (rule _ >>= fun _ => ret .notImplemented) _ E s
  exact wpAny_bind (wpAny_rule (wpAny_pure ⟨_, rfl, hq⟩))
theorem gives_int_bytes (i : Int) (u : Tok) (b : Array UInt8) (t : Tok) : Gives (Builtin.«int.__eq__» ⟨[.int i u, .bytes b t], []⟩) (.val .notImplemented) :=
  .of_wp fun M A E s Q h => by obtain ⟨hp, g, d, tk, os⟩ := s; wp_walk; exact ⟨_, rfl, h⟩

theorem rich_bytes_int {b : Array UInt8} {t : Tok} {i : Int} {u : Tok} {Q : Value → Shared → Prop} (h : Q (.bool false) s) : wpAny (model prog w) A (richCompare .Eq (.bytes b t) (.int i u)) Q E s :=
  EqNone.wpAny_richCompare_eq_decline (k := false) (fun s' => PySem.W.typeIs_bytes s' b t) (fun s' => typeIs_int s' i u) (by decide) F.sub_int_bytes FB.slot_bytes_eq F.slot_int_eq_refl rfl
    (call_gives FB.slot_bytes_eq (PySem.W.typeIs_bytes s b t) FB.entry_bytes_eq (FB.args_bytes_eq_2 _ _) (gives_bytes_int b t i u)
      ⟨rfl, call_gives F.slot_int_eq_refl (typeIs_int s i u) F.entry_int_eq (F.args_int_eq_2 _ _) (gives_int_bytes i u b t) ⟨rfl, h⟩⟩)
theorem rich_int_bytes {b : Array UInt8} {t : Tok} {i : Int} {u : Tok} {Q : Value → Shared → Prop} (h : Q (.bool false) s) : wpAny (model prog w) A (richCompare .Eq (.int i u) (.bytes b t)) Q E s :=
  EqNone.wpAny_richCompare_eq_decline (k := false) (fun s' => typeIs_int s' i u) (fun s' => PySem.W.typeIs_bytes s' b t) (by decide) F.sub_bytes_int F.slot_int_eq FB.slot_bytes_eq rfl
    (call_gives F.slot_int_eq (typeIs_int s i u) F.entry_int_eq (F.args_int_eq_2 _ _) (gives_int_bytes i u b t)
      ⟨rfl, call_gives FB.slot_bytes_eq (PySem.W.typeIs_bytes s b t) FB.entry_bytes_eq (FB.args_bytes_eq_2 _ _) (gives_bytes_int b t i u) ⟨rfl, h⟩⟩)

theorem eqBool_part {a b : Part} {u v : Value} {Q : Bool → Shared → Prop} (hu : isPart a u = true) (hv : isPart b v = true) (h : Q (decide (a = b)) s) : wpAny (model prog w) A (eqBool u v) Q E s := by
  unfold eqBool
  cases a with
  | inl x =>
    obtain ⟨t, rfl⟩ := isPart_inl hu
    cases b with
    | inl y =>
      obtain ⟨t', rfl⟩ := isPart_inl hv
      show wpAny _ _ (if (Value.bytes x.toArray t == Value.bytes y.toArray t') = true then _ else _) Q E s
      by_cases hab : (Value.bytes x.toArray t == Value.bytes y.toArray t') = true
      · rw [if_pos hab]
        have e : x = y := by have := (Value.bytes.inj (eq_of_beq hab)).1; simpa using this
        subst e
        exact wpAny_bind (wpAny_rule (wpAny_pure (by simpa using h)))
      · rw [if_neg hab]
        refine wpAny_bind (eq_bytes (wpAny_truthy_bool ?_))
        have e : (x.toArray.toList == y.toArray.toList) = decide ((Sum.inl x : Part) = Sum.inl y) := by
          by_cases q : x = y
          · subst q; simp
          · rw [decide_eq_false (fun hh => q (Sum.inl.inj hh))]
            simpa using q
        rw [e]; exact h
    | inr j =>
      obtain ⟨t', rfl⟩ := isPart_inr hv
      show wpAny _ _ (richCompare .Eq (.bytes x.toArray t) (.int j t') >>= fun r => truthOfDropped r) Q E s
      refine wpAny_bind (rich_bytes_int (b := x.toArray) (t := t) (i := j) (u := t') ?_)
      show wpAny _ _ (truthy (.bool false)) _ _ _
      refine wpAny_truthy_bool ?_
      rw [decide_eq_false (fun hh => nomatch hh)] at h
      exact h
  | inr i =>
    obtain ⟨t, rfl⟩ := isPart_inr hu
    cases b with
    | inl y =>
      obtain ⟨t', rfl⟩ := isPart_inl hv
      show wpAny _ _ (richCompare .Eq (.int i t) (.bytes y.toArray t') >>= fun r => truthOfDropped r) Q E s
      refine wpAny_bind (rich_int_bytes (b := y.toArray) (t := t') (i := i) (u := t) ?_)
      show wpAny _ _ (truthy (.bool false)) _ _ _
      refine wpAny_truthy_bool ?_
      rw [decide_eq_false (fun hh => nomatch hh)] at h
      exact h
    | inr j =>
      obtain ⟨t', rfl⟩ := isPart_inr hv
      have h' : Q (i == j) s := by
        have e : decide ((Sum.inr i : Part) = Sum.inr j) = (i == j) := by
          by_cases q : i = j
          · subst q; simp
          · rw [decide_eq_false (fun hh => q (Sum.inr.inj hh))]
            simpa using q
        rwa [e] at h
      exact (wpAny_eqBool_int h' : wpAny (model prog w) A (eqBool (.int i t) (.int j t')) Q E s)
end

def partKind (prog : Program) (w : World) : KeyKind prog w Part where
  is := isPart
  hash := partHash w
  inj := isPart_inj
  byValue := fun k v h => by
    cases k with
    | inl b => obtain ⟨t, rfl⟩ := isPart_inl h; rfl
    | inr i => obtain ⟨t, rfl⟩ := isPart_inr h; rfl
  pyHash := fun {A E s k v Q} hv h => by
    cases k with
    | inl b => obtain ⟨t, rfl⟩ := isPart_inl hv; exact pyHash_bytes h
    | inr i => obtain ⟨t, rfl⟩ := isPart_inr hv; exact wpAny_pyHash_int h
  eqBool := fun hu hv h => eqBool_part hu hv h
  «strs» := fun k x t v h => by cases k <;> simp [isPart] at h
end

section
set_option maxRecDepth 8000
open KBw (IsBytesIter)
section
variable {prog : Program} {w : World} {A : Around} {E : Value → Shared → Prop} {s : Shared}

theorem bIter_ext {h h' : Heap} {I J : Addr} {b : Array UInt8} {t : Tok} {i : Nat} (x : IsBytesIter h I b t i) (S : Heap.ExtBut J h h') (hne : I ≠ J) : IsBytesIter h' I b t i :=
  let ⟨o, e, r⟩ := x; ⟨o, S I o hne e, r⟩
theorem bIter_at {h h' : Heap} {I : Addr} {b : Array UInt8} {t : Tok} {i : Nat} (x : IsBytesIter h I b t i) (k : ∀ o, h.get? I = some o → h'.get? I = some o) : IsBytesIter h' I b t i :=
  let ⟨o, e, r⟩ := x; ⟨o, k o e, r⟩
theorem bIter_lt {h : Heap} {I : Addr} {b : Array UInt8} {t : Tok} {i : Nat} (x : IsBytesIter h I b t i) : I < h.objs.size := let ⟨_, e, _⟩ := x; Heap.lt_size e

theorem nextOf_bytes {it : Addr} {b : Array UInt8} {t : Tok} {i : Nat} {c : UInt8} {Q : Value → Shared → Prop} (hit : IsBytesIter s.heap it b t i) (hx : b[i]? = some c)
    (hQ : ∀ h', IsBytesIter h' it b t (i + 1) → Heap.SameBut it s.heap h' → Q (.int (c.toNat : Int) s.toks) { s with heap := h', toks := s.toks + 1 }) :
    wpAny (model prog w) A (Builtin.SmallTypes.nextOf (.ref it)) Q E s := by
  obtain ⟨o, ho, hc, hd⟩ := id hit
  unfold Builtin.SmallTypes.nextOf
  refine wpAny_bind (wpAny_callSpecial?_slot (name := PySem.Str.ofString "__next__") (KBw.iter_typeIs hit) KBw.slot_next
    (wpAny_call_entry KBw.slot_next (KBw.iter_typeIs hit) KBw.entry_next ?_ (KBw.args_next _)))
  show wpAny _ _ (field (.ref it) 0 >>= _) _ _ s
  refine wpAny_bind (wpAny_field ho hd (x := .bytes b t) rfl ?_)
  show wpAny _ _ (if (Value.bytes b t == Value.none) = true then _ else _) _ _ s
  rw [if_neg (show ¬ ((Value.bytes b t == Value.none) = true) from Bool.false_ne_true)]
  show wpAny _ _ (field (.ref it) 1 >>= _) _ _ s
  refine wpAny_bind (wpAny_field ho hd (x := .int i 0) rfl ?_)
  refine wpAny_bind (wpAny_of_eq (a := b) rfl ?_)
  simp only [Int.toNat_natCast, hx]
  refine wpAny_bind (wpAny_setField ho hd (by simp) (wpAny_bind (wpAny_mkInt (wpAny_pure ⟨_, rfl, wpAny_pure (hQ _ ?_ (Heap.SameBut.update ..))⟩))))
  exact ⟨_, Heap.get?_update_self _ ho (Obj.isFreed_of_fields (Obj.data_mapFields hd _)), (Obj.cls_mapFields ..).trans hc, by
    rw [Obj.data_mapFields hd]; simp [rawInt]⟩

theorem nextOf_bytes_end {it : Addr} {b : Array UInt8} {t : Tok} {i : Nat} {Q : Value → Shared → Prop} (hh : A.handled = none) (hit : IsBytesIter s.heap it b t i) (hx : b[i]? = none)
    (hE : ∀ h' e, Heap.ExtBut it s.heap h' → (∃ o, h'.get? e = some o ∧ o.cls = .type "StopIteration") → E (.ref e) { s with heap := h' }) :
    wpAny (model prog w) A (Builtin.SmallTypes.nextOf (.ref it)) Q E s := by
  obtain ⟨o, ho, hc, hd⟩ := id hit
  unfold Builtin.SmallTypes.nextOf
  refine wpAny_bind (wpAny_callSpecial?_slot (name := PySem.Str.ofString "__next__") (KBw.iter_typeIs hit) KBw.slot_next
    (wpAny_call_entry KBw.slot_next (KBw.iter_typeIs hit) KBw.entry_next ?_ (KBw.args_next _)))
  show wpAny _ _ (field (.ref it) 0 >>= _) _ _ s
  refine wpAny_bind (wpAny_field ho hd (x := .bytes b t) rfl ?_)
  show wpAny _ _ (if (Value.bytes b t == Value.none) = true then _ else _) _ _ s
  rw [if_neg (show ¬ ((Value.bytes b t == Value.none) = true) from Bool.false_ne_true)]
  show wpAny _ _ (field (.ref it) 1 >>= _) _ _ s
  refine wpAny_bind (wpAny_field ho hd (x := .int i 0) rfl ?_)
  refine wpAny_bind (wpAny_of_eq (a := b) rfl ?_)
  simp only [Int.toNat_natCast, hx]
  refine wpAny_bind (wpAny_rule (wpAny_bind (wpAny_setField ho hd (by simp) ?_)))
  show wpAny _ _ (newExc (.type "StopIteration") [] >>= _) _ _ _
  refine wpAny_bind ?_
  simp only [newExc, newTuple]
  refine wpAny_bind (wpAny_newObj_type ?_ (by size_fits))
  refine wpAny_bind (m := firstArgMember _ _) (wpAny_of_eq (a := Value.none) (by first | rfl | (simp only [firstArgMember]; rfl)) ?_)
  refine wpAny_newObj_type ?_ (by size_fits)
  simp only [raiseNew]
  refine wpAny_bind (wpAny_handled ?_)
  first | rw [show A.in1.handled = none from hh] | rw [hh]
  refine wpAny_bind (wpAny_pure (wpAny_throw ?_))
  exact hE _ _ (((Heap.SameBut.update ..).extBut.push _).push _) ⟨_, Heap.get?_push_size _ rfl, rfl⟩

/-- five addresses in a row -/
structure Row5 (z TI TO i1 i2 : Addr) : Prop where
  a : i2 = i1 + 1
  b : TI = i1 + 2
  c : TO = i1 + 3
  d : z = i1 + 4

theorem zipB_item {z TI TO i1 i2 : Addr} {k : Nat} {xs ys : Array UInt8} {t1 t2 : Tok} {x y : UInt8} {a b : Value} {Q : Value → Shared → Prop} (D : Row5 z TI TO i1 i2)
    (hz : IsZip s.heap z TI TO .none) (hTI : IsPair s.heap TI (.ref i1) (.ref i2)) (hTO : IsPair s.heap TO a b)
    (h1 : IsBytesIter s.heap i1 xs t1 k) (h2 : IsBytesIter s.heap i2 ys t2 k) (hx : xs[k]? = some x) (hy : ys[k]? = some y)
    (hQ : ∀ h' tk tx ty, IsZip h' z TI TO (rawInt s.heap.objs.size) → IsPair h' TO (.int (x.toNat : Int) tx) (.int (y.toNat : Int) ty) → IsBytesIter h' i1 xs t1 (k + 1) → IsBytesIter h' i2 ys t2 (k + 1) →
      IsPair h' s.heap.objs.size (.int (x.toNat : Int) tx) (.int (y.toNat : Int) ty) →
      (∀ c o, c ≠ z → c ≠ TO → c ≠ i1 → c ≠ i2 → s.heap.get? c = some o → h'.get? c = some o) → Q (.ref s.heap.objs.size) { s with heap := h', toks := tk }) :
    wpAny (model prog w) A (Builtin.«zip.__next__» ⟨[.ref z], []⟩) (fun fin s' => ∃ v, fin = .done (.ret v) ∧ Q v s') E s := by
  obtain ⟨rfl, rfl, rfl, rfl⟩ := D
  have ne : ∀ (m n : Nat), m ≠ n → i1 + m ≠ i1 + n := fun m n h e => h (Nat.add_left_cancel e)
  have ne0 : ∀ (n : Nat), n ≠ 0 → i1 ≠ i1 + n := fun n h e => h (Nat.add_left_cancel (e.symm.trans (Nat.add_zero i1).symm))
  show wpAny _ _ (field (.ref (i1 + 4)) 2 >>= _) _ _ _
  refine wpAny_bind (wpAny_field hz rfl (x := .bool false) rfl ?_)
  show wpAny _ _ (field (.ref (i1 + 4)) 3 >>= _) _ _ _
  refine wpAny_bind (wpAny_field hz rfl (x := .ref (i1 + 2)) rfl ?_)
  refine wpAny_bind (wpAny_seqItems hTI rfl ?_)
  show wpAny _ _ (Builtin.SmallTypes.ownedTupleIsFree (.ref (i1 + 4)) >>= _) _ _ _
  refine wpAny_bind ?_
  unfold Builtin.SmallTypes.ownedTupleIsFree
  refine wpAny_bind (wpAny_field hz rfl (x := .none) rfl (wpAny_pure ?_))
  simp only [if_true]
  refine wpAny_bind (wpAny_rule ?_)
  refine wpAny_bind (wpAny_field hz rfl (x := .ref (i1 + 3)) rfl ?_)
  refine wpAny_bind (wpAny_setField_rec hz (by simp) fun g₁ hz₁ hs₁ => ?_)
  replace hz₁ : IsZip g₁ (i1 + 4) (i1 + 2) (i1 + 3) .ellipsis := hz₁
  refine wpAny_bind ?_
  simp only [List.zipIdx_cons, List.zipIdx_nil, List.forIn_cons, List.forIn_nil]
  refine wpAny_bind (wpAny_bind (wpAny_onRaise ?_))
  show wpAny _ _ (Builtin.SmallTypes.nextOf (.ref i1) >>= _) _ _ _
  refine wpAny_bind (nextOf_bytes (bIter_ext h1 hs₁.extBut (ne0 4 (by decide))) hx fun g₂ h1₂ hs₂ => wpAny_pure ?_)
  have hTO₂ : IsPair g₂ (i1 + 3) a b := hs₂.extBut _ _ (ne0 3 (by decide)).symm (hs₁.extBut _ _ (ne 3 4 (by decide)) hTO)
  refine wpAny_bind (wpAny_seqItems hTO₂ rfl ?_)
  refine wpAny_bind (wpAny_updateSeq_pair hTO₂ fun g₃ hTO₃ hs₃ => ?_)
  replace hTO₃ : IsPair g₃ (i1 + 3) (.int (x.toNat : Int) s.toks) b := hTO₃
  refine wpAny_bind (wpAny_letGo (wpAny_pure ?_))
  refine wpAny_bind (wpAny_bind (wpAny_onRaise ?_))
  show wpAny _ _ (Builtin.SmallTypes.nextOf (.ref (i1 + 1)) >>= _) _ _ _
  refine wpAny_bind (nextOf_bytes (bIter_ext (bIter_ext (bIter_ext h2 hs₁.extBut (ne 1 4 (by decide))) hs₂.extBut (ne0 1 (by decide)).symm) hs₃.extBut (ne 1 3 (by decide))) hy fun g₄ h2₄ hs₄ => wpAny_pure ?_)
  have hTO₄ : IsPair g₄ (i1 + 3) (.int (x.toNat : Int) s.toks) b := hs₄.extBut _ _ (ne 3 1 (by decide)) hTO₃
  refine wpAny_bind (wpAny_seqItems hTO₄ rfl ?_)
  refine wpAny_bind (wpAny_updateSeq_pair hTO₄ fun g₅ hTO₅ hs₅ => ?_)
  replace hTO₅ : IsPair g₅ (i1 + 3) (.int (x.toNat : Int) s.toks) (.int (y.toNat : Int) (s.toks + 1)) := hTO₅
  refine wpAny_bind (wpAny_letGo (wpAny_pure (wpAny_pure ?_)))
  refine wpAny_bind (wpAny_seqItems hTO₅ rfl ?_)
  refine wpAny_bind (wpAny_newTuple ?_)
  have hsz : g₅.objs.size = s.heap.objs.size := by rw [hs₅.1, hs₄.1, hs₃.1, hs₂.1, hs₁.1]
  have hz₅ : IsZip g₅ (i1 + 4) (i1 + 2) (i1 + 3) .ellipsis :=
    hs₅.extBut _ _ (ne 4 3 (by decide)) (hs₄.extBut _ _ (ne 4 1 (by decide)) (hs₃.extBut _ _ (ne 4 3 (by decide)) (hs₂.extBut _ _ (ne0 4 (by decide)).symm hz₁)))
  have hk₅ : ∀ c o, c ≠ i1 + 4 → c ≠ i1 + 3 → c ≠ i1 → c ≠ i1 + 1 → s.heap.get? c = some o → g₅.get? c = some o := fun c o c1 c2 c3 c4 e =>
    hs₅.extBut _ _ c2 (hs₄.extBut _ _ c4 (hs₃.extBut _ _ c2 (hs₂.extBut _ _ c3 (hs₁.extBut _ _ c1 e))))
  have h1₅ : IsBytesIter g₅ i1 xs t1 (k + 1) := bIter_ext (bIter_ext (bIter_ext h1₂ hs₃.extBut (ne0 3 (by decide))) hs₄.extBut (ne0 1 (by decide))) hs₅.extBut (ne0 3 (by decide))
  have h2₅ : IsBytesIter g₅ (i1 + 1) ys t2 (k + 1) := bIter_ext h2₄ hs₅.extBut (ne 1 3 (by decide))
  have hzlt : i1 + 4 < g₅.objs.size := Heap.lt_size hz₅
  show wpAny _ _ (Builtin.SmallTypes.ownedTupleHandOut (.ref (i1 + 4)) (.ref g₅.objs.size) >>= _) _ _ _
  refine wpAny_bind ?_
  unfold Builtin.SmallTypes.ownedTupleHandOut
  have hz₆ : IsZip (g₅.push { cls := .type "tuple", data := .seq #[.int (x.toNat : Int) s.toks, .int (y.toNat : Int) (s.toks + 1)] }) (i1 + 4) (i1 + 2) (i1 + 3) .ellipsis := Heap.get?_push_of_some _ hz₅
  refine wpAny_bind (wpAny_setField_rec hz₆ (by simp) fun g₇ hz₇ hs₇ => ?_)
  replace hz₇ : IsZip g₇ (i1 + 4) (i1 + 2) (i1 + 3) (rawInt g₅.objs.size) := hz₇
  refine wpAny_setField_rec hz₇ (by simp) fun g₈ hz₈ hs₈ => ?_
  replace hz₈ : IsZip g₈ (i1 + 4) (i1 + 2) (i1 + 3) (rawInt g₅.objs.size) := hz₈
  have up : ∀ c o, c ≠ i1 + 4 → g₅.get? c = some o → g₈.get? c = some o := fun c o c1 e => hs₈.extBut _ _ c1 (hs₇.extBut _ _ c1 (Heap.get?_push_of_some _ e))
  have hT₈ : IsPair g₈ g₅.objs.size (.int (x.toNat : Int) s.toks) (.int (y.toNat : Int) (s.toks + 1)) := hs₈.extBut _ _ (Nat.ne_of_gt hzlt) (hs₇.extBut _ _ (Nat.ne_of_gt hzlt) (Heap.get?_push_size _ rfl))
  rw [hsz] at hz₈ hT₈
  refine wpAny_pure ⟨_, rfl, ?_⟩
  show Q (.ref g₅.objs.size) _
  rw [hsz]
  exact hQ g₈ _ _ _ hz₈ (up _ _ (ne 3 4 (by decide)) hTO₅) (bIter_at h1₅ fun o e => up _ o (ne0 4 (by decide)) e) (bIter_at h2₅ fun o e => up _ o (ne 1 4 (by decide)) e) hT₈
    fun c o c1 c2 c3 c4 e => up c o c1 (hk₅ c o c1 c2 c3 c4 e)
end
end

section
set_option maxRecDepth 8000
open KBw (IsBytesIter)
section
variable {prog : Program} {w : World} {A : Around} {E : Value → Shared → Prop} {s : Shared}

theorem zipB_end {z TI TO i1 i2 : Addr} {k : Nat} {xs : Array UInt8} {t1 : Tok} {Q : Fin → Shared → Prop} (hh : A.handled = none) (D : Row5 z TI TO i1 i2)
    (hz : IsZip s.heap z TI TO .none) (hTI : IsPair s.heap TI (.ref i1) (.ref i2)) (h1 : IsBytesIter s.heap i1 xs t1 k) (hx : xs[k]? = none)
    (hE : ∀ h' e, (∀ c o, c ≠ z → c ≠ TO → c ≠ i1 → c ≠ i2 → s.heap.get? c = some o → h'.get? c = some o) → (∃ o, h'.get? e = some o ∧ o.cls = .type "StopIteration") → E (.ref e) { s with heap := h' }) :
    wpAny (model prog w) A (Builtin.«zip.__next__» ⟨[.ref z], []⟩) Q E s := by
  obtain ⟨rfl, rfl, rfl, rfl⟩ := D
  have ne0 : ∀ (n : Nat), n ≠ 0 → i1 ≠ i1 + n := fun n h e => h (Nat.add_left_cancel (e.symm.trans (Nat.add_zero i1).symm))
  show wpAny _ _ (field (.ref (i1 + 4)) 2 >>= _) _ _ _
  refine wpAny_bind (wpAny_field hz rfl (x := .bool false) rfl ?_)
  show wpAny _ _ (field (.ref (i1 + 4)) 3 >>= _) _ _ _
  refine wpAny_bind (wpAny_field hz rfl (x := .ref (i1 + 2)) rfl ?_)
  refine wpAny_bind (wpAny_seqItems hTI rfl ?_)
  show wpAny _ _ (Builtin.SmallTypes.ownedTupleIsFree (.ref (i1 + 4)) >>= _) _ _ _
  refine wpAny_bind ?_
  unfold Builtin.SmallTypes.ownedTupleIsFree
  refine wpAny_bind (wpAny_field hz rfl (x := .none) rfl (wpAny_pure ?_))
  simp only [if_true]
  refine wpAny_bind (wpAny_rule ?_)
  refine wpAny_bind (wpAny_field hz rfl (x := .ref (i1 + 3)) rfl ?_)
  refine wpAny_bind (wpAny_setField_rec hz (by simp) fun g₁ hz₁ hs₁ => ?_)
  replace hz₁ : IsZip g₁ (i1 + 4) (i1 + 2) (i1 + 3) .ellipsis := hz₁
  refine wpAny_bind ?_
  simp only [List.zipIdx_cons, List.zipIdx_nil, List.forIn_cons, List.forIn_nil]
  refine wpAny_bind (wpAny_bind (wpAny_onRaise ?_))
  show wpAny _ _ (Builtin.SmallTypes.nextOf (.ref i1) >>= _) _ _ _
  refine wpAny_bind (nextOf_bytes_end hh (bIter_ext h1 hs₁.extBut (ne0 4 (by decide))) hx fun g₂ e hs₂ he => ?_)
  obtain ⟨oe, hoe, hce⟩ := he
  have hz₂ : IsZip g₂ (i1 + 4) (i1 + 2) (i1 + 3) .ellipsis := hs₂ _ _ (ne0 4 (by decide)).symm hz₁
  have hez : e ≠ i1 + 4 := fun x => by subst x; rw [hz₂] at hoe; cases hoe; simp at hce
  refine wpAny_setField_rec hz₂ (by simp) fun g₃ _ hs₃ => hE g₃ e (fun c o c1 _ c3 _ x => hs₃.extBut _ _ c1 (hs₂ _ _ c3 (hs₁.extBut _ _ c1 x))) ⟨oe, hs₃.extBut _ _ hez hoe, hce⟩

theorem walksZipB (hh : A.handled = none) (z TI TO i1 i2 : Addr) (D : Row5 z TI TO i1 i2) (xs ys : Array UInt8) (t1 t2 : Tok) (hl : xs.size = ys.size) :
    WalksU prog w A z [z, TI, TO, i1, i2] [z, TO, i1, i2] xs.size
      (fun i vals => ∃ x y tx ty, xs[i]? = some x ∧ ys[i]? = some y ∧ vals = #[.int (x.toNat : Int) tx, .int (y.toNat : Int) ty])
      (fun i h => IsZip h z TI TO .none ∧ IsPair h TI (.ref i1) (.ref i2) ∧ (∃ a b, IsPair h TO a b) ∧ IsBytesIter h i1 xs t1 i ∧ IsBytesIter h i2 ys t2 i)
      (fun i T h => IsZip h z TI TO (rawInt T) ∧ IsPair h TI (.ref i1) (.ref i2) ∧ (∃ a b, IsPair h TO a b) ∧ IsBytesIter h i1 xs t1 (i + 1) ∧ IsBytesIter h i2 ys t2 (i + 1) ∧ T ≠ z ∧ T ≠ TO ∧ T ≠ i1 ∧ T ≠ i2) where
  sub := fun c hc => by simp at hc ⊢; rcases hc with rfl | rfl | rfl | rfl <;> simp
  frame := fun i h h' hst hk => by
    obtain ⟨hz, hTI, ⟨a, b, hTO⟩, h1, h2⟩ := hst
    exact ⟨hk z (by simp) _ hz, hk TI (by simp) _ hTI, ⟨a, b, hk TO (by simp) _ hTO⟩, bIter_at h1 fun o e => hk i1 (by simp) o e, bIter_at h2 fun o e => hk i2 (by simp) o e⟩
  item := fun i s Q E hi hst hQ => by
    obtain ⟨hz, hTI, ⟨a, b, hTO⟩, h1, h2⟩ := hst
    have hx : xs[i]? = some xs[i] := Array.getElem?_eq_getElem hi
    have hy : ys[i]? = some (ys[i]'(hl ▸ hi)) := Array.getElem?_eq_getElem _
    have lt : ∀ {c o}, s.heap.get? c = some o → s.heap.objs.size ≠ c := fun e => Nat.ne_of_gt (Heap.lt_size e)
    have hT : s.TypeIs (.ref z) "zip" := ⟨_, hz, rfl⟩
    have D' := D
    obtain ⟨rfl, rfl, rfl, rfl⟩ := D
    have ne : ∀ (m n : Nat), m ≠ n → i1 + m ≠ i1 + n := fun m n h e => h (Nat.add_left_cancel e)
    have ne0 : ∀ (n : Nat), n ≠ 0 → i1 ≠ i1 + n := fun n h e => h (Nat.add_left_cancel (e.symm.trans (Nat.add_zero i1).symm))
    unfold pyNext
    refine wpAny_bind (wpAny_attempt (wpAny_callSpecial?_slot (name := PySem.Str.ofString "__next__") hT F.slot_zip_next
      (wpAny_call_entry F.slot_zip_next hT F.entry_zip_next
        (zipB_item D' hz hTI hTO h1 h2 hx hy fun h' tk tx ty a1 a2 a3 a4 a5 hk => wpAny_pure ?_) (F.args_zip_next_1 _))))
    exact hQ s.heap.objs.size _ h' tk ⟨_, _, _, _, hx, hy, rfl⟩ ⟨_, a5, rfl, _, rfl⟩
      ⟨a1, hk _ _ (ne 2 4 (by decide)) (ne 2 3 (by decide)) (ne0 2 (by decide)).symm (ne 2 1 (by decide)) hTI, ⟨_, _, a2⟩, a3, a4, lt hz, lt hTO, (by obtain ⟨_, e, _⟩ := h1; exact lt e), (by obtain ⟨_, e, _⟩ := h2; exact lt e)⟩
      fun c o hc e => hk c o (fun x => hc (by simp [x])) (fun x => hc (by simp [x])) (fun x => hc (by simp [x])) (fun x => hc (by simp [x])) e
  go := fun elts k pos i T s Q E hm hQ => by
    obtain ⟨hz, hTI, ⟨a, b, hTO⟩, h1, h2, _⟩ := hm
    obtain ⟨rfl, rfl, rfl, rfl⟩ := D
    have ne : ∀ (m n : Nat), m ≠ n → i1 + m ≠ i1 + n := fun m n h e => h (Nat.add_left_cancel e)
    have ne0 : ∀ (n : Nat), n ≠ 0 → i1 ≠ i1 + n := fun n h e => h (Nat.add_left_cancel (e.symm.trans (Nat.add_zero i1).symm))
    refine wpAny_letOwnedTupleGo_zip hz fun h' hz' hs' => hQ h' ⟨hz', hs'.extBut _ _ (ne 2 4 (by decide)) hTI, ⟨a, b, hs'.extBut _ _ (ne 3 4 (by decide)) hTO⟩, bIter_ext h1 hs'.extBut (ne0 4 (by decide)), bIter_ext h2 hs'.extBut (ne 1 4 (by decide))⟩
      fun c o hc e => hs'.extBut _ _ (fun x => hc (by simp [x])) e
  apart := fun i T h hm hT => by
    obtain ⟨_, _, _, _, _, t1, t2, t3, t4⟩ := hm
    simp at hT
    rcases hT with rfl | rfl | rfl | rfl
    · exact t1 rfl
    · exact t2 rfl
    · exact t3 rfl
    · exact t4 rfl
  done := fun s Q E hst hQ => by
    obtain ⟨hz, hTI, ⟨a, b, hTO⟩, h1, h2⟩ := hst
    have hT : s.TypeIs (.ref z) "zip" := ⟨_, hz, rfl⟩
    unfold pyNext
    refine wpAny_bind (wpAny_attempt (wpAny_callSpecial?_slot (name := PySem.Str.ofString "__next__") hT F.slot_zip_next
      (wpAny_call_entry F.slot_zip_next hT F.entry_zip_next (zipB_end hh D hz hTI h1 (Array.getElem?_eq_none (Nat.le_refl _)) fun h' e hk he => ?_) (F.args_zip_next_1 _))))
    obtain ⟨o, ho, hc⟩ := he
    refine wpAny_bind (wpAny_isInstance (T := "StopIteration") (b := true) ⟨o, ho, hc⟩ isSubtype_stop ?_)
    exact wpAny_pure (hQ h' s.toks fun c o hc e => hk c o (fun x => hc (by simp [x])) (fun x => hc (by simp [x])) (fun x => hc (by simp [x])) (fun x => hc (by simp [x])) e)
  self := fun i s Q E hst hQ => wpAny_pyIter_zip hst.1 hQ

abbrev zB1 (h : Heap) (b : Array UInt8) (t : Tok) : Heap := h.push { cls := .type "bytes_iterator", data := .fields #[.bytes b t, .int 0 0] }
abbrev zB2 (h : Heap) (b c : Array UInt8) (t u : Tok) : Heap := (zB1 h b t).push { cls := .type "bytes_iterator", data := .fields #[.bytes c u, .int 0 0] }
abbrev zB3 (h : Heap) (b c : Array UInt8) (t u : Tok) : Heap := (zB2 h b c t u).push { cls := .type "tuple", data := .seq #[.ref h.objs.size, .ref (zB1 h b t).objs.size] }
abbrev zB4 (h : Heap) (b c : Array UInt8) (t u : Tok) : Heap := (zB3 h b c t u).push { cls := .type "tuple", data := .seq #[.none, .none] }
abbrev zB5 (h : Heap) (b c : Array UInt8) (t u : Tok) : Heap := (zB4 h b c t u).push { cls := .type "zip", data := .fields #[.none, .bool false, .bool false, .ref (zB2 h b c t u).objs.size, .ref (zB3 h b c t u).objs.size] }

theorem newClass_zip (x y : Value) : Builtin.SmallTypes.newClass "zip" ⟨[.type "zip", x, y], []⟩ = pure (.type "zip", [x, y]) := by
  unfold Builtin.SmallTypes.newClass
  show ((isType (.type "zip")) >>= fun r => _) = _
  rw [show isType (.type "zip") = pure true from rfl]
  show ((isSubtype (.type "zip") (.type "zip")) >>= fun r => _) = _
  rw [sub_zip]
  rfl

theorem meets_zipB (b c : Array UInt8) (t u : Tok) : Meets (Builtin.«zip.__new__» ⟨[.type "zip", .bytes b t, .bytes c u], []⟩) (fun _ R s => R (.ok (.ret (.ref (zB4 s.heap b c t u).objs.size))) { s with heap := zB5 s.heap b c t u }) :=
  .of_wp fun prog w A R s h => by
    unfold Builtin.«zip.__new__»
    refine wpAny_bind (wpAny_of_eq (newClass_zip _ _) ?_)
    show wpAny _ _ (Builtin.SmallTypes.iterAll [.bytes b t, .bytes c u] >>= _) _ _ _
    refine wpAny_bind ?_
    unfold Builtin.SmallTypes.iterAll
    simp only [List.forIn_cons, List.forIn_nil]
    refine wpAny_bind (wpAny_bind (wpAny_bind (wpAny_holding (KBw.pyIter_bytes ?_))))
    refine wpAny_pure ?_
    refine wpAny_bind (wpAny_bind (wpAny_holding (KBw.pyIter_bytes ?_)))
    refine wpAny_pure ?_
    refine wpAny_pure ?_
    refine wpAny_pure ?_
    refine wpAny_bind (wpAny_newTuple ?_ (by show (2 : Nat) ≤ _; decide))
    refine wpAny_bind (wpAny_newTuple ?_ (by show (2 : Nat) ≤ _; decide))
    refine wpAny_bind ?_
    unfold Builtin.SmallTypes.newRecord
    refine wpAny_newObj_type ?_ (by show (5 : Nat) ≤ _; decide)
    exact wpAny_pure ⟨_, rfl, h⟩

theorem call_zipB {b c : Array UInt8} {t u : Tok} {Q : Value → Shared → Prop}
    (h : ∀ h', IsZip h' (s.heap.objs.size + 4) (s.heap.objs.size + 2) (s.heap.objs.size + 3) .none → IsPair h' (s.heap.objs.size + 2) (.ref s.heap.objs.size) (.ref (s.heap.objs.size + 1)) →
      IsPair h' (s.heap.objs.size + 3) .none .none → IsBytesIter h' s.heap.objs.size b t 0 → IsBytesIter h' (s.heap.objs.size + 1) c u 0 → h'.objs.size = s.heap.objs.size + 5 →
      Kp s.heap h' → Q (.ref (s.heap.objs.size + 4)) { s with heap := h' }) :
    wpAny (model prog w) A (call (.type "zip") [.bytes b t, .bytes c u]) Q E s := by
  refine callType_new F.called_zip (by decide) (F.typeCall_zip_2 _ _) (F.newCall_zip_2 _ _) (fun obj => F.args_object_init_3 obj _ _) F.entry_zip_new (meets_zipB b c t u) ?_
  have z1 : (zB1 s.heap b t).objs.size = s.heap.objs.size + 1 := Heap.size_push ..
  have z2 : (zB2 s.heap b c t u).objs.size = s.heap.objs.size + 2 := by rw [Heap.size_push, z1]
  have z3 : (zB3 s.heap b c t u).objs.size = s.heap.objs.size + 3 := by rw [Heap.size_push, z2]
  have z4 : (zB4 s.heap b c t u).objs.size = s.heap.objs.size + 4 := by rw [Heap.size_push, z3]
  have z5 : (zB5 s.heap b c t u).objs.size = s.heap.objs.size + 5 := by rw [Heap.size_push, z4]
  have g5 : (zB5 s.heap b c t u).get? (zB4 s.heap b c t u).objs.size = some _ := Heap.get?_push_size _ rfl
  have g4 : (zB5 s.heap b c t u).get? (zB3 s.heap b c t u).objs.size = some _ := Heap.get?_push_of_some _ (Heap.get?_push_size _ rfl)
  have g3 : (zB5 s.heap b c t u).get? (zB2 s.heap b c t u).objs.size = some _ := Heap.get?_push_of_some _ (Heap.get?_push_of_some _ (Heap.get?_push_size _ rfl))
  have g2 : (zB5 s.heap b c t u).get? (zB1 s.heap b t).objs.size = some _ := Heap.get?_push_of_some _ (Heap.get?_push_of_some _ (Heap.get?_push_of_some _ (Heap.get?_push_size _ rfl)))
  have g1 : (zB5 s.heap b c t u).get? s.heap.objs.size = some _ := Heap.get?_push_of_some _ (Heap.get?_push_of_some _ (Heap.get?_push_of_some _ (Heap.get?_push_of_some _ (Heap.get?_push_size _ rfl))))
  show _ ∧ _
  rw [z2, z3, z4] at g5
  rw [z1, z2] at g3
  rw [z3] at g4
  rw [z1] at g2
  rw [z4]
  exact ⟨⟨_, g5, rfl⟩, h _ g5 g3 g4 ⟨_, g1, rfl, rfl⟩ ⟨_, g2, rfl, rfl⟩ z5 fun c o x =>
    Heap.get?_push_of_some _ (Heap.get?_push_of_some _ (Heap.get?_push_of_some _ (Heap.get?_push_of_some _ (Heap.get?_push_of_some _ x))))⟩
end
end

section
set_option maxRecDepth 8000
theorem gen_no_bytes : typeLookup (.type "generator") "__bytes__" = pure none := by rw [typeLookup_type, builtinLookup_eq_fast]; kernel_rfl
theorem gen_no_index : typeLookup (.type "generator") "__index__" = pure none := by rw [typeLookup_type, builtinLookup_eq_fast]; kernel_rfl
theorem gen_no_buffer : typeLookup (.type "generator") "__buffer__" = pure none := by rw [typeLookup_type, builtinLookup_eq_fast]; kernel_rfl
theorem gen_no_len : typeLookup (.type "generator") "__len__" = pure none := by rw [typeLookup_type, builtinLookup_eq_fast]; kernel_rfl
theorem gen_no_hint : typeLookup (.type "generator") "__length_hint__" = pure none := by rw [typeLookup_type, builtinLookup_eq_fast]; kernel_rfl

section
variable {prog : Program} {w : World} {A : Around} {E : Value → Shared → Prop} {s : Shared}

def byt (f : Nat → UInt8) (i : Nat) : List UInt8 := (List.range i).map f
theorem byt_succ (f : Nat → UInt8) (i : Nat) : byt f (i + 1) = byt f i ++ [f i] := by simp [byt, List.range_succ]

theorem bytes_loopS {R : Result → Shared → Prop} {I S : Addr} {fp wr : List Addr} {G : Array GenState → Array GenState → Prop} {n : Nat} {P : Nat → Value → Prop} {St : Nat → Shared → Prop} {f : Nat → UInt8}
    (W : WalksS prog w A.in1 I fp wr G n P St) (hP : ∀ i v, P i v → ∃ t, v = .int ((f i).toNat : Int) t) (hz : n ≤ 1000) (hSf : S ∉ fp) :
    ∀ (k i : Nat) (s : Shared), n - i = k → i ≤ n → St i s → s.heap.get? S = some { cls := .type "bytearray", data := .bytearray (byt f i).toArray } →
      (∀ s' t, Moved (S :: wr) G s s' → R (.ok (.ret (.bytes (byt f n).toArray t))) s') →
      codeAny (model prog w) A (.builtin "bytes.__new__.loop" ⟨[.type "bytes", .ref I, .ref S], []⟩) R s := by
  have hSw : S ∉ wr := fun h => hSf (W.sub S h)
  intro k
  induction k with
  | zero =>
    intro i s hk hle hst hS hR
    have hin : i = n := by omega
    subst hin
    refine codeAny_builtin F.bm_entry_loop ?_
    rw [Around.under_plainId F.bm_plain_loop _]
    show wpAny _ A.in1 (pyNext (.ref I) >>= _) _ _ s
    refine wpAny_bind (W.done s _ _ hst fun s' hm => ?_)
    have hS' := hm.heap S _ hSw hS
    refine wpAny_bind ?_
    unfold Builtin.Bytes.payload Builtin.Bytes.payload?
    refine wpAny_bind (wpAny_bind (wpAny_load hS' ?_))
    refine wpAny_pure (wpAny_pure ?_)
    refine wpAny_bind (wpAny_mkBytes ?_ (by rw [List.size_toArray]; simp [byt, sizeLine_eq]; omega))
    show wpAny _ _ (if (Value.type "bytes" == Value.type "bytes") = true then _ else _) _ _ _
    refine bm_if_true (by decide) ?_
    have fin : Moved (S :: wr) G s { s' with toks := s'.toks + 1 } := ⟨fun b o hb e => hm.heap b o (fun h => hb (.tail _ h)) e, hm.gens, hm.drawn, hm.os, Nat.le_succ_of_le hm.toks⟩
    first
      | exact wpAny_pure (hR _ _ fin)
      | exact wpAny_bind (wpAny_pure (wpAny_pure (hR _ _ fin)))
  | succ k ih =>
    intro i s hk hle hst hS hR
    have hlt : i < n := by omega
    refine codeAny_builtin F.bm_entry_loop ?_
    rw [Around.under_plainId F.bm_plain_loop _]
    show wpAny _ A.in1 (pyNext (.ref I) >>= _) _ _ s
    refine wpAny_bind (W.item i s _ _ hlt hst fun v s' hPv hst' hm => ?_)
    obtain ⟨t, rfl⟩ := hP i v hPv
    have hS' := hm.heap S _ hSw hS
    have hb := (f i).toNat_lt
    refine wpAny_bind (wpAny_holding (wpAny_of_eq (rfl : asIndex (.int ((f i).toNat : Int) t) = pure ((f i).toNat : Int)) ?_))
    refine wpAny_bind (wpAny_letGo ?_)
    refine bm_if_false (by simp only [Bool.or_eq_false_iff, decide_eq_false_iff_not]; omega) ?_
    refine wpAny_bind ?_
    show wpAny _ _ (updateBytearray S (·.push (((f i).toNat : Int)).toNat.toUInt8)) _ _ _
    have e8 : (((f i).toNat : Int)).toNat.toUInt8 = f i := by
      rw [Int.toNat_natCast]
      exact UInt8.ofNat_toNat
    rw [e8]
    unfold updateBytearray
    refine wpAny_bind (wpAny_load hS' ?_)
    show wpAny _ _ (update S (Obj.mapBytearray (·.push (f i))) >>= fun _ => lookBehind S) _ _ _
    refine wpAny_bind (wpAny_update hS' ?_)
    have hS₂ : (s'.heap.update S (Obj.mapBytearray (·.push (f i)))).get? S = some { cls := .type "bytearray", data := .bytearray (byt f (i + 1)).toArray } := by
      have := Heap.get?_update_self (Obj.mapBytearray (·.push (f i))) hS' rfl
      rw [this, byt_succ]
      simp [Obj.mapBytearray]
    refine wpAny_lookBehind hS₂ ?_ ?_
    · show (if (byt f (i + 1)).toArray.size > sizeLine then some "bytearray:memory" else none) = none
      rw [if_neg]
      rw [List.size_toArray, sizeLine_eq]
      simp [byt]; omega
    · have up : ∀ b o, b ≠ S → s'.heap.get? b = some o → (s'.heap.update S (Obj.mapBytearray (·.push (f i)))).get? b = some o := fun b o hb e => (Heap.get?_update_other _ _ (Ne.symm hb)).trans e
      refine wpAny_pure ⟨plainId_quiet F.bm_plain_loop _, ih (i + 1) { s' with heap := s'.heap.update S (Obj.mapBytearray (·.push (f i))) } (by walk_at "dp") hlt ?_ hS₂ fun s₃ t₃ hm₃ => ?_⟩
      · exact W.frame (i + 1) s' _ s'.toks hst' (Nat.le_refl _) fun b hb o e => up b o (fun q => hSf (q ▸ hb)) e
      · refine hR s₃ t₃ ⟨fun b o hb e => hm₃.heap b o hb (up b o (fun q => hb (q ▸ .head _)) (hm.heap b o (fun h => hb (.tail _ h)) e)), W.gtrans _ _ _ hm.gens hm₃.gens, hm₃.drawn.trans hm.drawn, hm₃.os.trans hm.os, Nat.le_trans hm.toks hm₃.toks⟩

theorem bytes_new_gen {a : Addr} {fp wr : List Addr} {G : Array GenState → Array GenState → Prop} {n : Nat} {P : Nat → Value → Prop} {St : Nat → Shared → Prop} {f : Nat → UInt8} {Q : Value → Shared → Prop}
    (W : WalksS prog w A.in1 a fp wr G n P St) (hP : ∀ i v, P i v → ∃ t, v = .int ((f i).toNat : Int) t) (hz : n ≤ 1000) (hst : St 0 s) {g : Nat} (hg : s.heap.IsGen a g) (hfp : ∀ b ∈ fp, b < s.heap.objs.size)
    (hQ : ∀ s' t, Moved (s.heap.objs.size :: wr) G s s' → Q (.bytes (byt f n).toArray t) s') :
    codeAny (model prog w) A (.call (.builtin "bytes.__new__") ⟨[.type "bytes", .ref a], []⟩) (wants Q E) s := by
  refine codeAny_of_tree ?_
  show wpAny _ A.in1 (do checkBuiltinCall "bytes.__new__" ⟨[.type "bytes", .ref a], []⟩; again (.builtin "bytes.__new__" ⟨[.type "bytes", .ref a], []⟩)) _ _ s
  refine wpAny_bind (wpAny_of_eq (F.bm_newCall _) (wpAny_pure ⟨plainId_quiet F.bm_plain _, codeAny_builtin F.bm_entry ?_⟩))
  rw [Around.under_plainId F.bm_plain _]
  have hT : s.TypeIs (.ref a) "generator" := hg.typeIs
  obtain ⟨oa, nm, qn, hoa, hca, hda, hsl⟩ := id hg
  unfold Builtin.«bytes.__new__»
  refine wpAny_bind (wpAny_of_eq (a := true) rfl ?_)
  refine bm_if_false rfl ?_
  refine wpAny_bind (wpAny_of_eq F.bm_sub ?_)
  refine bm_if_false rfl ?_
  refine wpAny_bind (wpAny_of_eq (F.bm_bind _) ?_)
  refine wpAny_bind (wpAny_of_eq (a := ()) rfl ?_)
  refine wpAny_bind (wpAny_of_eq (a := ()) rfl ?_)
  refine bm_if_false rfl ?_
  refine wpAny_bind (wpAny_specialOf hT gen_no_bytes ?_)
  refine wpAny_bind (wpAny_bind ?_)
  show wpAny _ _ (load a >>= _) _ _ _
  refine wpAny_bind (wpAny_load hoa ?_)
  rw [hda]
  refine wpAny_pure (wpAny_pure ?_)
  refine bm_if_false rfl ?_
  refine wpAny_bind (wpAny_specialOf hT gen_no_index ?_)
  refine bm_if_true rfl ?_
  first
    | show wpAny _ _ (Builtin.Bytes.buffer? "bytes.__new__" (.ref a) true >>= _) _ _ _
    | (refine wpAny_bind ?_; show wpAny _ _ (Builtin.Bytes.buffer? "bytes.__new__" (.ref a) true >>= _) _ _ _)
  refine wpAny_bind ?_
  unfold Builtin.Bytes.buffer?
  refine wpAny_bind (wpAny_specialOf hT gen_no_buffer ?_)
  refine wpAny_bind (wpAny_specialOf hT gen_no_buffer ?_)
  refine wpAny_pure ?_
  refine wpAny_bind (wpAny_tryCatch (W.self 0 s _ _ hst ?_))
  refine wpAny_bind (wpAny_holding ?_)
  unfold Builtin.Bytes.lengthHint
  refine wpAny_bind (wpAny_specialOf hT gen_no_len ?_)
  dsimp only
  refine bm_if_false rfl ?_
  refine bm_if_false rfl ?_
  refine wpAny_bind (wpAny_specialOf hT gen_no_hint ?_)
  refine wpAny_pure ?_
  refine wpAny_bind ?_
  unfold Builtin.Bytes.newBytearray
  refine wpAny_newObj_type ?_ (Nat.zero_le _)
  have hSf : s.heap.objs.size ∉ fp := fun h => Nat.lt_irrefl _ (hfp _ h)
  have main := bytes_loopS (prog := prog) (w := w) (A := A) (R := wants Q E) (I := a) (S := s.heap.objs.size) W hP hz hSf n 0 { s with heap := s.heap.push { cls := .type "bytearray", data := .bytearray #[] } } rfl (Nat.zero_le _)
    (W.frame 0 s _ s.toks hst (Nat.le_refl _) fun b _ o e => Heap.get?_push_of_some _ e) (Heap.get?_push_size _ rfl)
    fun s' t hm => hQ s' t ⟨fun b o hb e => hm.heap b o hb (Heap.get?_push_of_some _ e), hm.gens, hm.drawn, hm.os, hm.toks⟩
  first
    | exact wpAny_pure ⟨plainId_quiet F.bm_plain_loop _, main⟩
    | exact wpAny_pure (wpAny_pure ⟨plainId_quiet F.bm_plain_loop _, main⟩)

theorem call_bytes_gen {a : Addr} {fp wr : List Addr} {G : Array GenState → Array GenState → Prop} {n : Nat} {P : Nat → Value → Prop} {St : Nat → Shared → Prop} {f : Nat → UInt8} {Q : Value → Shared → Prop}
    (W : WalksS prog w A.in1.in1 a fp wr G n P St) (hP : ∀ i v, P i v → ∃ t, v = .int ((f i).toNat : Int) t) (hz : n ≤ 1000) (hst : St 0 s) {g : Nat} (hg : s.heap.IsGen a g) (hfp : ∀ b ∈ fp, b < s.heap.objs.size)
    (hQ : ∀ s' t, Moved (s.heap.objs.size :: wr) G s s' → Q (.bytes (byt f n).toArray t) s') :
    wpAny (model prog w) A (call (.type "bytes") [.ref a]) Q E s := by
  refine callType_codes (Q₁ := fun obj s₁ => s₁.TypeIs obj "bytes" ∧ Q obj s₁) F.bm_called (F.bm_typeCall _) F.entry_object_init
    (bytes_new_gen W hP hz hst hg hfp fun s' t hm => ⟨PySem.W.typeIs_bytes _ _ _, hQ s' t hm⟩) fun obj s₁ h₁ => ?_
  exact ⟨h₁.1, F.args_object_init_2 obj _, object_init_meets F.bm_called.init.lookup F.bm_called.made (by decide) prog w A.in1 _ s₁ ⟨h₁.1, rfl, h₁.2⟩⟩
end
end

section
set_option maxRecDepth 8000
open KBw (IsBytesIter)
section
variable {prog : Program} {w : World} {A : Around} {E : Value → Shared → Prop} {s : Shared} {env : Env} {L : Addr} {h₀ : Heap} {m mg mb : Str → Option Value}


def KpB (D : List Addr) (h h' : Heap) : Prop := ∀ b o, b ∉ D → h.get? b = some o → h'.get? b = some o
/-- the table of _xor's code: what it has made so far -/
def XT (h : Heap) : Prop := ∃ ps, h.IsCode 34 30 ps ∧ h.TableAt 34 30 ps

theorem Gl.but {P : Addr} {o : Obj} {h h' : Heap} (G : Gl mg mb h) (hP : h.get? P = some o) (hc : o.cls = .none) (hd : ∃ ps, o.data = .fields ps) (hS : Heap.ExtBut P h h') : h'.Ns mainGlobals mg ∧ h'.NoLimit ∧ 
    (∃ bm ob, mg "__builtins__" = some (.ref bm) ∧ bm ≠ builtinsNs ∧ h'.get? bm = some ob ∧ ob.cls = .type "module" ∧ ob.dict = some builtinsNs ∧ ob.data = .plain) := by
  obtain ⟨ps, hd⟩ := hd
  have ns : ∀ {a : Addr} {mm : Str → Option Value}, h.Ns a mm → h'.Ns a mm := fun {a mm} x => by
    refine x.extBut hS fun q => ?_
    obtain ⟨oa, es, ep, e, hda, _⟩ := x
    rw [q, hP] at e
    cases e
    rw [hd] at hda; cases hda
  obtain ⟨mc, hm, hn⟩ := G.lim
  obtain ⟨bm, ob, a1, a2, a3, a4, a5⟩ := G.bmain
  refine ⟨ns G.g, ⟨mc, ns hm, hn⟩, bm, ob, a1, a2, hS _ _ (fun q => ?_) a3, a4, a5⟩
  rw [q, hP] at a3
  cases a3
  rw [hc] at a4; cases a4

theorem genexpr_xt {pos : Pos} {q : Str} {sc : Scope} {Q : Value → Shared → Prop} (hc : env.code = .ref 34) (X : XT s.heap)
    (h : ∀ code h' tk, Heap.ExtBut 30 s.heap h' → s.heap.objs.size ≤ h'.objs.size → XT h' → Q code { s with heap := h', toks := tk }) : wpAny (model prog w) A (genexprCode env pos q sc) Q E s := by
  obtain ⟨ps, hok, htab⟩ := X
  cases hf : codeAmong pos ps.toList with
  | none =>
    refine wpAny_genexprCodeX hc hok htab hf fun c' h' tk hS hle hlt hok' _ htab' _ => h _ h' tk hS (Nat.le_of_lt (Nat.lt_of_le_of_lt hle hlt)) ⟨_, hok', htab'⟩
  | some c' => exact wpAny_genexprCode_hit hc hok hf (h _ s.heap s.toks (fun _ _ _ e => e) (Nat.le_refl _) ⟨ps, hok, htab⟩)

theorem XT.at {h h' : Heap} (X : XT h) (k1 : ∀ o, h.get? 34 = some o → h'.get? 34 = some o) (k2 : ∀ o, h.get? 30 = some o → h'.get? 30 = some o) : XT h' := by
  obtain ⟨ps, ⟨o, vs, file, tf, flags, tg, inF, text, tt, op, a, r1, r2, r3, r4, r5, r6, b, r⟩, ⟨⟨o', vs', e, r'⟩, t⟩⟩ := X
  exact ⟨ps, ⟨o, vs, file, tf, flags, tg, inF, text, tt, op, k1 _ a, r1, r2, r3, r4, r5, r6, k2 _ b, r⟩, ⟨⟨o', vs', k1 _ e, r'⟩, k2 _ t⟩⟩
theorem byt_xor : ∀ (a b : List UInt8), a.length = b.length → byt (fun i => a.getD i 0 ^^^ b.getD i 0) a.length = xorL a b := fun a b hl => by
  refine List.ext_getElem (by simp [byt, xorL]; omega) fun i h1 h2 => ?_
  have hi : i < a.length := by simpa [byt] using h1
  simp [byt, xorL, hi, hl ▸ hi]

theorem passing_true (n : Nat) : passing (fun _ => true) n 0 = List.range n := by simp [passing]
theorem u8_xor_nat (x y : UInt8) : Builtin.bitXor (x.toNat : Int) (y.toNat : Int) = ((x ^^^ y).toNat : Int) := by rw [bitXor_nat]; congr 1

theorem xor_call {a b : List UInt8} {ta tb : Tok} {Q : Value → Shared → Prop} (G : Gl mg mb s.heap) (X : XT s.heap) (hb : AllBare s.gens) (hroom : A.depth + 100 < recursionLimit) (hh : A.handled = none)
    (hl : a.length = b.length) (hz : a.length ≤ 1000)
    (h : ∀ h' t' k gens', KpB [30] s.heap h' → XT h' → AllBare gens' → Q (.bytes (xorL a b).toArray t') { s with heap := h', toks := k, gens := gens' }) :
    wpAny (model prog w) A (call (.ref 35) [.bytes a.toArray ta, .bytes b.toArray tb]) Q E s := by
  refine call_def (binds := [("a", .bytes a.toArray ta), ("b", .bytes b.toArray tb)]) (by walk_at "dp") G.lim G.f_xor (by intro _ _; rfl) (by exact locs rfl) fun h₁ F => ?_
  have G₁ := G.fr F
  have X₁ : XT h₁ := let ⟨ps, x, y⟩ := X; ⟨ps, x.keeps F.keep, y.keeps F.keep⟩
  refine wpAny_execs_cons ?_
  walk_at "mw"
  walk_at "mw"
  refine nmB G₁ (G.free _ (by decide)) (by boot_fast) ?_
  refine PyProof.Rows.callWith_type1 ?_
  walk_at "mw"
  refine wpAny_GeneratorExp_walksQT (cl := []) hh rfl rfl (by decide) rfl rfl rfl (by decide) rfl (by show A.depth + 1 < _; walk_at "dp") ?_ (by intro _; rfl)
  walk_at "mw"
  refine nmB G₁ (G.free _ (by decide)) (by boot_fast) ?_
  refine PyProof.Rows.callWith_type1 ?_
  walk_at "mw"
  refine nmL F rfl ?_
  walk_at "mw"
  refine nmL F rfl ?_
  walk_at "mw"
  refine call_zipB fun h₂ z1 z2 z3 z4 z5 hs₂ K₂ => ?_
  refine wpAny_pyIter_zip z1 ?_
  dsimp only
  have G₂ := G₁.keeps K₂
  have X₂ : XT h₂ := let ⟨ps, x, y⟩ := X₁; ⟨ps, x.keeps K₂, y.keeps K₂⟩
  have F₂ := F.keeps K₂
  refine ⟨G₂.lim, ?_⟩
  refine genexpr_xt rfl X₂ fun code h₃ tk₃ S₃ hsz₃ X₃ => ?_
  obtain ⟨ps2, _, hT2⟩ := id X₂
  obtain ⟨g₃, l₃, bm, ob, b1, b2, b3, b4, b5, b6⟩ := G₂.but hT2.2 rfl ⟨_, rfl⟩ S₃
  refine wpAny_builtinsFor g₃ b1 b2 b3 b4 b5 b6 ?_
  have hP : @LT.lt Nat _ 30 s.heap.objs.size := by
    obtain ⟨ps, _, t⟩ := X
    exact Heap.lt_size t.2
  have hLs : @LT.lt Nat _ s.heap.objs.size h₁.objs.size := F.ns.lt
  have hc2 : @LT.lt Nat _ 2 h₁.objs.size := let ⟨_, hm, _⟩ := G₁.lim; hm.lt
  have hsz3' : @LE.le Nat _ (h₁.objs.size + 5) h₃.objs.size := hs₂ ▸ hsz₃
  have ne30 : ∀ n : Nat, ¬ @Eq Nat 30 (h₁.objs.size + n) := fun n q => by omega
  have q0 : IsBytesIter h₃ h₁.objs.size a.toArray ta 0 := bIter_ext z4 S₃ (fun q => ne30 0 q.symm)
  have q1 : IsBytesIter h₃ (h₁.objs.size + 1) b.toArray tb 0 := bIter_ext z5 S₃ (fun q => ne30 1 q.symm)
  refine ⟨h₁.objs.size + 4, _, _, _, _, _, _, fun _ => true, fun i y => ∃ t, y = .int (((a.getD i 0 ^^^ b.getD i 0 : UInt8).toNat : Nat) : Int) t, rfl,
    fun A' hA' => walksZipB hA' _ _ _ h₁.objs.size _ ⟨rfl, rfl, rfl, rfl⟩ a.toArray b.toArray ta tb (by simpa using hl), ?_, ?_, ?_, l₃, ?_, ?_, ?_⟩
  · rintro i vals ⟨x, y, tx, ty, _, _, rfl⟩
    exact ⟨_, _, rfl⟩
  · exact ⟨S₃ _ _ (fun q => ne30 4 q.symm) z1, S₃ _ _ (fun q => ne30 2 q.symm) z2, ⟨_, _, S₃ _ _ (fun q => ne30 3 q.symm) z3⟩, q0, q1⟩
  · intro c hc
    simp only [List.mem_cons, List.not_mem_nil, or_false] at hc
    dsimp only
    show @LT.lt Nat _ _ _
    rcases hc with rfl | rfl | rfl | rfl | rfl <;> omega
  · intro hm
    simp only [List.mem_cons, List.not_mem_nil, or_false] at hm
    rcases hm with q | q | q | q <;> (have q' : @Eq Nat 2 _ := q; omega)
  · intro href hk
    refine ⟨fun A' E' i va vb s₂ m₂ hA hPt hN hma hmb hkp => wpAny_pure ⟨rfl, s₂.heap, s₂.toks, rfl, fun _ _ e => e⟩, fun A' E' i va vb s₂ m₂ hA hPt hp hN hma hmb hkp => ?_⟩
    obtain ⟨x, y, tx, ty, hx, hy, hv⟩ := hPt
    simp only [Array.mk.injEq, List.cons.injEq, and_true] at hv
    obtain ⟨rfl, rfl⟩ := hv
    walk_at "mw"
    refine nmLN hN hma (nmLN hN hmb (xor_int ?_))
    refine ⟨⟨s₂.toks, ?_⟩, s₂.heap, _, rfl, fun _ _ e => e⟩
    rw [u8_xor_nat]
    have ex : a.getD i 0 = x := by simp only [List.getElem?_toArray] at hx; simp [List.getD, hx]
    have ey : b.getD i 0 = y := by simp only [List.getElem?_toArray] at hy; simp [List.getD, hy]
    rw [ex, ey]
  · intro a' h₅ tk gs hgs hlt hsz hk W hAt
    refine wpAny_items_nil ?_
    have hpn : passing (fun _ => true) a.toArray.size 0 = List.range a.length := by rw [passing_true]; simp
    rw [hpn, List.length_range] at W
    have h3 : @LT.lt Nat _ h₃.objs.size a' := hlt
    have h5 : @Eq Nat h₅.objs.size (a' + 1) := hsz
    refine call_bytes_gen (f := fun i => a.getD i 0 ^^^ b.getD i 0) W.in4_2 ?_ hz hAt hAt.1 ?_ fun s' t' hm => ?_
    · rintro i v ⟨j, hj, hF⟩
      have hij : i = j := by
        have := List.getElem?_eq_some_iff.mp hj
        obtain ⟨h1, h2⟩ := this
        simpa using h2
      subst hij
      exact hF
    · intro c hc
      show @LT.lt Nat _ _ _
      simp only [List.mem_cons, List.mem_range] at hc
      dsimp only
      rcases hc with rfl | rfl | hc
      · omega
      · omega
      · have : @LT.lt Nat _ c h₃.objs.size := hc
        omega
    · obtain ⟨hp', gens', dr', tk', os'⟩ := s'
      obtain ⟨m1, m2, m3, m4, m5⟩ := hm
      dsimp only at m1 m2 m3 m4 m5
      subst m3; subst m4
      have wr : ∀ c : Nat, c < h₁.objs.size → c ∉ h₅.objs.size :: h₃.objs.size :: [h₁.objs.size + 4, h₁.objs.size + 3, h₁.objs.size, h₁.objs.size + 1] := fun c hc hmem => by
        simp only [List.mem_cons, List.not_mem_nil, or_false] at hmem
        rcases hmem with q | q | q | q | q | q <;> (have q' : @Eq Nat c _ := q; omega)
      rw [byt_xor a b hl]
      refine h hp' t' tk' gens' (fun c o hc e => ?_) (X₃.at (fun o e => ?_) fun o e => ?_) ?_
      · have hcs : @LT.lt Nat _ c s.heap.objs.size := Heap.lt_size e
        refine m1 c o (wr c (by walk_at "dp")) (hk _ _ (S₃ _ _ (fun q => hc (q ▸ .head _)) (K₂ _ _ (F.keep _ _ e))))
      · exact m1 34 o (wr 34 (by
          obtain ⟨o', _, _, a1, _⟩ := G.f_xor
          obtain ⟨ps, ⟨o2, _, _, _, _, _, _, _, _, _, e2, _⟩, _⟩ := X
          have : @LT.lt Nat _ 34 s.heap.objs.size := Heap.lt_size e2
          omega)) (hk _ _ e)
      · exact m1 30 o (wr 30 (by walk_at "dp")) (hk _ _ e)
      · exact GenOnlyQ.bare m2 (AllBare.push hb hgs)
end
end

section
set_option linter.unusedVariables false
set_option maxRecDepth 8000
/-- the two defs within law -/
def stS : Stmt := (bodOf (stm 23)).getD 15 (.Pass default)
def stQ : Stmt := (bodOf (stm 23)).getD 16 (.Pass default)

abbrev QK := List Part
def qk (pw salt : List UInt8) (rounds octets : Nat) : QK := [.inl pw, .inl salt, .inr (rounds : Int), .inr (octets : Int)]

inductive All2 {α β : Type} (R : α → β → Prop) : List α → List β → Prop
  | nil : All2 R [] []
  | cons {a b as bs} : R a b → All2 R as bs → All2 R (a :: as) (b :: bs)
theorem All2.imp {α β : Type} {R R' : α → β → Prop} (f : ∀ a b, R a b → R' a b) : ∀ {as : List α} {bs : List β}, All2 R as bs → All2 R' as bs
  | _, _, .nil => .nil
  | _, _, .cons h r => .cons (f _ _ h) (r.imp f)
theorem All2.length {α β : Type} {R : α → β → Prop} : ∀ {as : List α} {bs : List β}, All2 R as bs → as.length = bs.length
  | _, _, .nil => rfl
  | _, _, .cons _ r => by simp [r.length]
theorem All2.snoc {α β : Type} {R : α → β → Prop} {a : α} {b : β} : ∀ {as : List α} {bs : List β}, All2 R as bs → R a b → All2 R (as ++ [a]) (bs ++ [b])
  | _, _, .nil, h => .cons h .nil
  | _, _, .cons h r, h' => .cons h (r.snoc h')
theorem All2.get {α β : Type} {R : α → β → Prop} : ∀ {as : List α} {bs : List β}, All2 R as bs → ∀ (i : Nat) (a : α), as[i]? = some a → ∃ b, bs[i]? = some b ∧ R a b
  | _, _, .nil, i, a, e => by simp at e
  | _, _, .cons (b := b) h r, 0, a, e => by simp at e; subst e; exact ⟨b, rfl, h⟩
  | _, _, .cons h r, i + 1, a, e => by simpa using r.get i a (by simpa using e)
theorem All2.get' {α β : Type} {R : α → β → Prop} : ∀ {as : List α} {bs : List β}, All2 R as bs → ∀ (i : Nat) (b : β), bs[i]? = some b → ∃ a, as[i]? = some a ∧ R a b
  | _, _, .nil, i, b, e => by simp at e
  | _, _, .cons (a := a) h r, 0, b, e => by simp at e; subst e; exact ⟨a, rfl, h⟩
  | _, _, .cons h r, i + 1, b, e => by simpa using r.get' i b (by simpa using e)

theorem All2.ofGet {α β : Type} {R : α → β → Prop} : ∀ {as : List α} {bs : List β}, as.length = bs.length → (∀ (i : Nat) (a : α) (b : β), as[i]? = some a → bs[i]? = some b → R a b) → All2 R as bs
  | [], [], _, _ => .nil
  | a :: as, b :: bs, hl, h => .cons (h 0 a b rfl rfl) (All2.ofGet (by simpa using hl) fun i x y e1 e2 => h (i + 1) x y (by simpa using e1) (by simpa using e2))

/-- what was asked, and what the table holds -/
structure Sig where
  asked : List QK
  table : List (QK × List UInt8)

/-- where the law's own things lie; the octets of a half; the twelve answers -/
structure Pm where
  aA : Addr
  tA : Addr
  fS : Addr
  cS : Addr
  cAn : Addr
  cAs : Addr
  cHa : Addr
  cTa : Addr
  lAn : Addr
  n : Nat
  ans : List Nat

def Pm.D (p : Pm) : List Addr := [p.aA, p.tA, 30]

def ansAt (p : Pm) (i : Nat) : Nat := if i < 12 then p.ans.getD i 0 else 0
def look (t : List (QK × List UInt8)) (q : QK) : Option (List UInt8) := (t.find? fun x => decide (x.1 = q)).map (·.2)
def askS (p : Pm) (σ : Sig) (q : QK) : Sig := match look σ.table q with
  | some _ => ⟨σ.asked ++ [q], σ.table⟩
  | none => ⟨σ.asked ++ [q], σ.table ++ [(q, enc p.n (ansAt p σ.table.length))]⟩
def askV (p : Pm) (σ : Sig) (q : QK) : List UInt8 := match look σ.table q with
  | some b => b
  | none => enc p.n (ansAt p σ.table.length)

def IsTq (prog : Program) (w : World) (h : Heap) (v : Value) (q : QK) : Prop := ∃ a, v = .ref a ∧ IsTupleKey (partKind prog w) h q a
def IsEn (x : QK × Addr × Value) (y : QK × List UInt8) : Prop := x.1 = y.1 ∧ ∃ t, x.2.2 = .bytes y.2.toArray t

def clS (p : Pm) : List (Str × Addr) := [("table", p.cTa), ("half", p.cHa), ("asked", p.cAs), ("answers", p.cAn)]

structure C (prog : Program) (w : World) (p : Pm) (g : Heap) (σ : Sig) (h : Heap) : Prop where
  keep : Kp g h
  asked : ∃ vs : List Value, h.PlainList p.aA vs.toArray ∧ All2 (IsTq prog w h) vs σ.asked
  table : ∃ xs, h.DictOfH (tupleKind (partKind prog w)) p.tA xs ∧ All2 IsEn xs σ.table
  xt : XT h
  fn : ∃ od doc pm ct, h.get? p.fS = some { cls := .type "function", dict := od, data := .func (fnX "stretch" "law.<locals>.stretch" (parOf stS) (bodOf stS) (scoOf stS) (clS p) .none .none doc pm none (.ref p.cS) ct) } ∧ h.CodeRec (.ref p.cS) "law.<locals>.stretch"
  c1 : h.IsCell p.cAn (some (.ref p.lAn))
  c2 : h.IsCell p.cAs (some (.ref p.aA))
  c3 : ∃ t, h.IsCell p.cHa (some (.int (p.n : Int) t))
  c4 : h.IsCell p.cTa (some (.ref p.tA))
  answers : ∃ vs, h.IsList p.lAn vs.toArray ∧ IntsAre vs (p.ans.map fun r : Nat => (r : Int))

/-- what holds of the places themselves -/
structure Pm.Ok (p : Pm) (g : Heap) : Prop where
  gA : g.get? p.aA = none
  gT : g.get? p.tA = none
  gX : g.get? 30 = none
  sys : (p.tA == sysModules) = false
  n16 : p.n ≤ 16
  len : p.ans.length = 12
  lt : ∀ r ∈ p.ans, r < 256 ^ p.n
  ne : p.lAn ≠ p.aA
  aX : p.aA ≠ 30
  tX : p.tA ≠ 30
  cX : p.cS ≠ 30

section
variable {prog : Program} {w : World} {p : Pm} {g h h' : Heap} {σ : Sig}

theorem C.keeps (x : C prog w p g σ h) (k : Kp h h') : C prog w p g σ h' where
  keep := fun b o e => k _ _ (x.keep b o e)
  asked := let ⟨vs, ⟨n, e⟩, a⟩ := x.asked; ⟨vs, ⟨n, k _ _ e⟩, a.imp fun v q ⟨a, e, o, it, n, ho, r⟩ => ⟨a, e, o, it, n, k _ _ ho, r⟩⟩
  table := let ⟨xs, ⟨o, es, ep, ho, hx, hd, he, hk, hn⟩, a⟩ := x.table; ⟨xs, ⟨o, es, ep, k _ _ ho, hx, hd, he, fun y hy => let ⟨o, it, n, ho, r⟩ := hk y hy; ⟨o, it, n, k _ _ ho, r⟩, hn⟩, a⟩
  xt := x.xt.at (fun o e => k _ _ e) fun o e => k _ _ e
  fn := let ⟨od, doc, pm, ct, a, b⟩ := x.fn; ⟨od, doc, pm, ct, k _ _ a, b.keeps k⟩
  c1 := x.c1.keeps k
  c2 := x.c2.keeps k
  c3 := let ⟨t, c⟩ := x.c3; ⟨t, c.keeps k⟩
  c4 := x.c4.keeps k
  answers := let ⟨vs, a, b⟩ := x.answers; ⟨vs, isList_kp a k, b⟩

/-- nothing of the state lies where a frame's names lie -/
theorem C.ext {L : Addr} (x : C prog w p g σ h) (S : Heap.ExtBut L h h') (hg : g.get? L = none) (hA : L ≠ p.aA) (hT : L ≠ p.tA) (hX : L ≠ 30) (hC : L ≠ p.cS)
    (hd : ∃ o, h.get? L = some o ∧ ((∃ es ep, o.data = .dict es ep) ∨ ((∃ vs, o.data = .fields vs) ∧ o.cls ≠ .type "code"))) : C prog w p g σ h' := by
  obtain ⟨oL, hoL, hk⟩ := hd
  have ne : ∀ {b : Addr} {o : Obj}, h.get? b = some o → (∀ es ep, o.data ≠ .dict es ep) → (∀ vs, o.data ≠ .fields vs) → b ≠ L := fun {b o} e h1 h2 q => by
    rw [q, hoL] at e
    cases e
    rcases hk with ⟨es, ep, q⟩ | ⟨⟨vs, q⟩, _⟩
    · exact h1 _ _ q
    · exact h2 _ q
  have tup : ∀ {q : QK} {a : Addr}, IsTupleKey (partKind prog w) h q a → IsTupleKey (partKind prog w) h' q a := fun {q a} ⟨o, it, n, ho, hc, hd, r⟩ =>
    ⟨o, it, n, S _ _ (ne ho (fun _ _ q => by rw [hd] at q; cases q) fun _ q => by rw [hd] at q; cases q) ho, hc, hd, r⟩
  have cell : ∀ {c : Addr} {v : Option Value}, h.IsCell c v → h'.IsCell c v := fun {c v} ⟨o, ho, hd⟩ => ⟨o, S _ _ (ne ho (fun _ _ q => by rw [hd] at q; cases q) fun _ q => by rw [hd] at q; cases q) ho, hd⟩
  refine ⟨fun b o e => S b o (fun q => by rw [q, hg] at e; cases e) (x.keep b o e), ?_, ?_, ?_, ?_, cell x.c1, cell x.c2, (let ⟨t, c⟩ := x.c3; ⟨t, cell c⟩), cell x.c4, ?_⟩
  · obtain ⟨vs, ⟨n, e⟩, a⟩ := x.asked
    exact ⟨vs, ⟨n, S _ _ (Ne.symm hA) e⟩, a.imp fun v q ⟨a, e, t⟩ => ⟨a, e, tup t⟩⟩
  · obtain ⟨xs, ⟨o, es, ep, ho, hx, hd, he, hk, hn⟩, a⟩ := x.table
    exact ⟨xs, ⟨o, es, ep, S _ _ (Ne.symm hT) ho, hx, hd, he, fun y hy => tup (hk y hy), hn⟩, a⟩
  · obtain ⟨ps, hc, ht⟩ := x.xt
    obtain ⟨⟨oc, vs, e, hcl, hdc, _⟩, _⟩ := id ht
    have h34 : L ≠ 34 := fun q => by
      rw [q, e] at hoL
      cases hoL
      rcases hk with ⟨es, ep, q⟩ | ⟨_, q⟩
      · rw [hdc] at q; cases q
      · exact q hcl
    exact XT.at x.xt (fun o e => S _ _ (Ne.symm h34) e) fun o e => S _ _ (Ne.symm hX) e
  · obtain ⟨od, doc, pm, ct, a, c2, oc, vs, t, e, b, d, r⟩ := x.fn
    cases e
    exact ⟨od, doc, pm, ct, S _ _ (ne a (fun _ _ q => by cases q) fun _ q => by cases q) a, _, oc, vs, t, rfl, S _ _ (Ne.symm hC) b, d, r⟩
  · obtain ⟨vs, ⟨o, e, hc, n, hd⟩, b⟩ := x.answers
    exact ⟨vs, ⟨o, S _ _ (ne e (fun _ _ q => by rw [hd] at q; cases q) fun _ q => by rw [hd] at q; cases q) e, hc, n, hd⟩, b⟩
end
end

section
set_option linter.unusedVariables false
set_option maxRecDepth 8000
theorem look_at {k : QK} : ∀ {xs : List (QK × Addr × Value)} {t : List (QK × List UInt8)}, All2 IsEn xs t →
    (atKey xs k = none ∧ look t k = none) ∨ ∃ a v b tk, atKey xs k = some (a, v) ∧ look t k = some b ∧ v = .bytes b.toArray tk
  | _, _, .nil => .inl ⟨rfl, rfl⟩
  | x :: xs, y :: t, .cons h r => by
    obtain ⟨h1, tk, h2⟩ := h
    by_cases hk : x.1 = k
    · right
      refine ⟨x.2.1, x.2.2, y.2, tk, ?_, ?_, h2⟩
      · simp [atKey, hk]
      · simp [look, ← h1, hk]
    · have hk' : ¬ y.1 = k := h1 ▸ hk
      rcases look_at (k := k) r with ⟨e1, e2⟩ | ⟨a, v, b, tk, e1, e2, e3⟩
      · left
        refine ⟨?_, ?_⟩
        · simpa [atKey, List.find?_cons, hk] using e1
        · simpa [look, List.find?_cons, hk'] using e2
      · right
        refine ⟨a, v, b, tk, ?_, ?_, e3⟩
        · simpa [atKey, List.find?_cons, hk] using e1
        · simpa [look, List.find?_cons, hk'] using e2

theorem atKey_snoc {k : QK} {a : Addr} {v : Value} : ∀ {xs : List (QK × Addr × Value)}, atKey xs k = none → atKey (xs ++ [(k, a, v)]) k = some (a, v)
  | [], _ => by simp [atKey]
  | x :: xs, h => by
    by_cases hk : x.1 = k
    · simp [atKey, hk] at h
    · have h' : atKey xs k = none := by simpa [atKey, List.find?_cons, hk] using h
      have := atKey_snoc (k := k) (a := a) (v := v) h'
      simpa [atKey, List.find?_cons, hk] using this

section
variable {prog : Program} {w : World} {p : Pm} {g h h' : Heap} {σ : Sig}

theorem tq_ext {v : Value} {q : QK} {D : Addr} (t : IsTq prog w h v q) (S : Heap.ExtBut D h h') (hD : ∀ o, h.get? D = some o → o.cls ≠ .type "tuple") : IsTq prog w h' v q :=
  let ⟨a, e, o, it, n, ho, hc, r⟩ := t; ⟨a, e, o, it, n, S _ _ (fun q => hD o (q ▸ ho) hc) ho, hc, r⟩

theorem C.app {q : QK} {v : Value} (x : C prog w p g σ h) (P : p.Ok g) {vs : List Value} (e : h.PlainList p.aA vs.toArray) (a : All2 (IsTq prog w h) vs σ.asked) (S : Heap.SameBut p.aA h h') (e' : h'.PlainList p.aA (vs ++ [v]).toArray) (hv : IsTq prog w h v q) :
    C prog w p g ⟨σ.asked ++ [q], σ.table⟩ h' := by
  obtain ⟨n, hA⟩ := e
  have S' := S.extBut
  have ncls : ∀ o, h.get? p.aA = some o → o.cls ≠ .type "tuple" := fun o q => by rw [hA] at q; cases q; simp
  have ne : ∀ {b : Addr} {o : Obj}, h.get? b = some o → (∀ vs n, o.data ≠ .seq vs n) → b ≠ p.aA := fun {b o} e h1 q => by rw [q, hA] at e; cases e; exact h1 _ _ rfl
  have cell : ∀ {c : Addr} {v : Option Value}, h.IsCell c v → h'.IsCell c v := fun ⟨o, ho, hd⟩ => ⟨o, S' _ _ (ne ho fun _ _ q => by rw [hd] at q; cases q) ho, hd⟩
  refine ⟨fun b o e => S' b o (fun q => by rw [q, P.gA] at e; cases e) (x.keep b o e), ⟨_, e', (a.snoc hv).imp fun v q t => tq_ext t S' ncls⟩, ?_, ?_, ?_, cell x.c1, cell x.c2, (let ⟨t, c⟩ := x.c3; ⟨t, cell c⟩), cell x.c4, ?_⟩
  · obtain ⟨xs, ⟨o, es, ep, ho, hx, hd, he, hk, hn⟩, a⟩ := x.table
    refine ⟨xs, ⟨o, es, ep, S' _ _ (ne ho fun _ _ q => by rw [hd] at q; cases q) ho, hx, hd, he, fun y hy => ?_, hn⟩, a⟩
    obtain ⟨o', it, n', ho', hc', r'⟩ := hk y hy
    exact ⟨o', it, n', S' _ _ (fun q => ncls o' (q ▸ ho') hc') ho', hc', r'⟩
  · obtain ⟨ps, hc, ht⟩ := id x.xt
    obtain ⟨⟨oc, vs', e1, hcl, hdc, _⟩, _⟩ := id ht
    exact XT.at x.xt (fun o e => S' _ _ (ne e1 fun _ _ q => by rw [hdc] at q; cases q) e) fun o e => S' _ _ (Ne.symm P.aX) e
  · obtain ⟨od, doc, pm, ct, a, c2, oc, vs', t, e, b, d, r⟩ := x.fn
    exact ⟨od, doc, pm, ct, S' _ _ (ne a fun _ _ q => by cases q) a, c2, oc, vs', t, e, S' _ _ (ne b fun _ _ q => by rw [d] at q; cases q) b, d, r⟩
  · obtain ⟨vs', ⟨o, e, r⟩, b⟩ := x.answers
    exact ⟨vs', ⟨o, S' _ _ P.ne e, r⟩, b⟩

theorem C.put {q : QK} {a : Addr} {b : List UInt8} {t : Tok} (x : C prog w p g σ h) (P : p.Ok g) {xs : List (QK × Addr × Value)} (e : h.DictOfH (tupleKind (partKind prog w)) p.tA xs) (r : All2 IsEn xs σ.table) (S : Heap.SameBut p.tA h h')
    (e' : h'.DictOfH (tupleKind (partKind prog w)) p.tA (xs ++ [(q, a, .bytes b.toArray t)])) : C prog w p g ⟨σ.asked, σ.table ++ [(q, b)]⟩ h' := by
  obtain ⟨oT, es, ep, hT, _, hdT, _⟩ := e
  have S' := S.extBut
  have ne : ∀ {b : Addr} {o : Obj}, h.get? b = some o → (∀ es n, o.data ≠ .dict es n) → b ≠ p.tA := fun {b o} e h1 q => by rw [q, hT] at e; cases e; exact h1 _ _ hdT
  have cell : ∀ {c : Addr} {v : Option Value}, h.IsCell c v → h'.IsCell c v := fun ⟨o, ho, hd⟩ => ⟨o, S' _ _ (ne ho fun _ _ q => by rw [hd] at q; cases q) ho, hd⟩
  refine ⟨fun b o e => S' b o (fun q => by rw [q, P.gT] at e; cases e) (x.keep b o e), ?_, ⟨_, e', r.snoc ⟨rfl, t, rfl⟩⟩, ?_, ?_, cell x.c1, cell x.c2, (let ⟨t, c⟩ := x.c3; ⟨t, cell c⟩), cell x.c4, ?_⟩
  · obtain ⟨vs, ⟨n, e⟩, a⟩ := x.asked
    refine ⟨vs, ⟨n, S' _ _ (ne e fun _ _ q => by cases q) e⟩, a.imp fun v q t => ?_⟩
    obtain ⟨a, e, o, it, n, ho, hc, hd, r⟩ := t
    exact ⟨a, e, o, it, n, S' _ _ (ne ho fun _ _ q => by rw [hd] at q; cases q) ho, hc, hd, r⟩
  · obtain ⟨ps, hc, ht⟩ := id x.xt
    obtain ⟨⟨oc, vs', e1, hcl, hdc, _⟩, _⟩ := id ht
    exact XT.at x.xt (fun o e => S' _ _ (ne e1 fun _ _ q => by rw [hdc] at q; cases q) e) fun o e => S' _ _ (Ne.symm P.tX) e
  · obtain ⟨od, doc, pm, ct, a, c2, oc, vs', t, e, b, d, r⟩ := x.fn
    exact ⟨od, doc, pm, ct, S' _ _ (ne a fun _ _ q => by cases q) a, c2, oc, vs', t, e, S' _ _ (ne b fun _ _ q => by rw [d] at q; cases q) b, d, r⟩
  · obtain ⟨vs', ⟨o, e, hc, n, hd⟩, b⟩ := x.answers
    exact ⟨vs', ⟨o, S' _ _ (ne e fun _ _ q => by rw [hd] at q; cases q) e, hc, n, hd⟩, b⟩
end
end

section
set_option linter.unusedVariables false
set_option maxRecDepth 8000
structure Frsh (p : Pm) (g : Heap) (L : Addr) : Prop where
  g : g.get? L = none
  a : L ≠ p.aA
  t : L ≠ p.tA
  x : L ≠ 30
  c : L ≠ p.cS

section
variable {prog : Program} {w : World} {p : Pm} {g h h' : Heap} {σ : Sig} {L : Addr} {m mg mb : Str → Option Value}

theorem C.frsh (x : C prog w p g σ h) {L : Addr} (hL : h.objs.size ≤ L) : Frsh p g L := by
  have ne : ∀ {b : Addr} {o : Obj}, h.get? b = some o → L ≠ b := fun {b o} e q => by
    have hb := Heap.lt_size e
    rw [← q] at hb
    exact Nat.lt_irrefl _ (Nat.lt_of_lt_of_le hb hL)
  refine ⟨?_, ?_, ?_, ?_, ?_⟩
  · cases q : g.get? L with
    | none => rfl
    | some o => exact absurd rfl (ne (x.keep _ _ q))
  · obtain ⟨_, ⟨_, e⟩, _⟩ := x.asked; exact ne e
  · obtain ⟨_, ⟨_, _, _, e, _⟩, _⟩ := x.table; exact ne e
  · obtain ⟨_, _, e⟩ := x.xt; exact ne e.2
  · obtain ⟨_, _, _, _, _, c, _, _, _, e, e', _⟩ := x.fn
    cases e
    exact ne e'

theorem C.local (x : C prog w p g σ h) (fr : Frsh p g L) (hn : h.Ns L m) (S : Heap.SameBut L h h') : C prog w p g σ h' := by
  obtain ⟨o, es, ep, e, hd, _⟩ := hn
  exact x.ext S.extBut fr.g fr.a fr.t fr.x fr.c ⟨o, e, .inl ⟨es, ep, hd⟩⟩

theorem fr_hide {D : List Addr} {h₁ : Heap} (F : Fr h L h₁ m) : Fr (hideAll h D) L h₁ m := ⟨F.ns, fun b o e => F.keep b o (of_hideAll _ e), Nat.le_trans (Nat.le_of_eq (hideAll_size _ _)) F.above⟩
theorem kpb_of {D : List Addr} {h₁ : Heap} (F : Fr (hideAll h D) L h₁ m) : KpB D h h₁ := fun b o hb e => F.keep b o (hideAll_get _ e hb)
theorem fr_kpb {D : List Addr} {h₁ h₂ : Heap} (F : Fr (hideAll h D) L h₁ m) (K : KpB D h₁ h₂) (hL : L ∉ D) : Fr (hideAll h D) L h₂ m := by
  refine ⟨?_, fun b o e => ?_, F.above⟩
  · obtain ⟨o, es, ep, e, r⟩ := F.ns
    exact ⟨o, es, ep, K _ _ hL e, r⟩
  · refine K _ _ (fun hb => ?_) (F.keep b o e)
    rw [hideAll_none _ hb] at e; cases e
theorem Frsh.D (f : Frsh p g L) : L ∉ p.D := fun hm => by
  simp only [Pm.D, List.mem_cons, List.not_mem_nil, or_false] at hm
  rcases hm with q | q | q
  · exact f.a q
  · exact f.t q
  · exact f.x q
theorem KpB.trans {D : List Addr} {h₁ h₂ : Heap} (a : KpB D h h₁) (b : KpB D h₁ h₂) : KpB D h h₂ := fun c o hc e => b c o hc (a c o hc e)
theorem KpB.ofKp {D : List Addr} (a : Kp h h') : KpB D h h' := fun c o _ e => a c o e
end

section
variable {prog : Program} {w : World} {A : Around} {E : Value → Shared → Prop} {s : Shared} {env : Env} {L : Addr} {h₀ : Heap} {m mg mb : Str → Option Value} {p : Pm} {g : Heap} {σ : Sig}

/-- a call of a def made in a def, no cells of its own -/
theorem code_clo {R : Result → Shared → Prop} {f : Addr} {fo : Obj} {name qual : Str} {params : Arguments} {body : List Stmt} {scope : Scope} {cl : List (Str × Addr)} {doc pm cdv ct : Value} {an : Option Addr} {args : List Value} {binds : List (Str × Value)}
    (hroom : A.depth < recursionLimit) (hlim : s.heap.NoLimit) (ho : s.heap.get? f = some fo) (hd : fo.data = .func (fnX name qual params body scope cl .none .none doc pm an cdv ct)) (hcd : s.heap.CodeRec cdv qual)
    (hbind : bindArgs (fnX name qual params body scope cl .none .none doc pm an cdv ct) ⟨args, []⟩ = pure binds)
    (hloc : ∀ x ∈ binds, scope.names.lookup x.1 = some .local)
    (h : ∀ h₁, Fr s.heap s.heap.objs.size h₁ (fun x => binds.reverse.lookup x) →
      wpAny (model prog w) (A.deeper (envX qual scope s.heap.objs.size f cdv cl)) (execs body (envX qual scope s.heap.objs.size f cdv cl))
        (fun fl s' => R (.ok (.ret (match fl with | .ret v => v | _ => .none))) s')
        (fun e s' => wpAny (model prog w) (A.deeper (envX qual scope s.heap.objs.size f cdv cl)) (leaving (envX qual scope s.heap.objs.size f cdv cl) e) (fun _ s'' => R (.error e) s'') (fun e' s'' => R (.error e') s'') s')
        { s with heap := h₁, toks := s.toks + binds.length })
    (hco : scope.isCoroutine = false := by rfl) (hgen : scope.isGenerator = false := by rfl) (hk : scope.kind = .function := by rfl)
    (hcell : ∀ x ∈ scope.names, x.2 ≠ .cell := by decide) : codeAny (model prog w) A (.call (.ref f) ⟨args, []⟩) R s := by
  refine codeAny_call_function hroom ho hd hco hgen rfl hcd ?_
  rw [hbind]
  refine wpAny_pure (wpAny_newFunctionEnv hcell hloc (fun h₁ hns hsb => ⟨hlim.fresh _ hsb, ?_⟩) hk)
  show codeAny _ _ (.func body (envX qual scope s.heap.objs.size f cdv cl)) _ _
  exact codeAny_func (h h₁ ⟨hns, fun b o e => hsb.extBut b o (Nat.ne_of_lt (Heap.lt_size e)) (Heap.get?_push_of_some _ e), Nat.le_refl _⟩)

theorem not_in_of {a d : Value} {r : Bool} {s' : Shared} {Q : Value → Shared → Prop} (h : ∀ Q : Value → Shared → Prop, Q (.bool r) s' → wpAny (model prog w) A (compareOp .In a d) Q E s) (hq : Q (.bool (!r)) s') : wpAny (model prog w) A (compareOp .NotIn a d) Q E s := by
  show wpAny _ _ (do return .bool (!(← contains d a))) Q E s
  refine wpAny_bind fun Γ pp hΓ => ?_
  have h1 := h (fun v s'' => ∀ b, v = .bool b → wpAny (model prog w) A (pure (Value.bool (!b))) Q E s'') (by rintro b ⟨⟩; exact wpAny_pure hq) Γ pp hΓ
  have h2 : Sem.wp (model prog w) Γ (contains d a >>= fun b => pure (Value.bool b)) (fun v _ s'' => ∀ b, v = .bool b → wpAny (model prog w) A (pure (Value.bool (!b))) Q E s'') (fun e _ s' => E e s') pp s := h1
  rw [Sem.wp_bind'] at h2
  exact Sem.wp_mono (model prog w) Γ _ (fun b p' s'' q => q b rfl) (fun _ _ _ q => q) pp s h2

theorem len_dictH {d : Addr} {xs : List (QK × Addr × Value)} {Q : Value → Shared → Prop} (hd : (d == sysModules) = false) (hm : s.heap.DictOfH (tupleKind (partKind prog w)) d xs) (hfit : xs.length < 2 ^ 60)
    (h : ∀ t k, Q (.int xs.length t) { s with toks := k }) : wpAny (model prog w) A (call (.builtin "len") [.ref d]) Q E s := by
  refine call_len_slot (n := (xs.length : Int)) hm.typeIs F.slot_dict_len (fun Q' hQ' => ?_) (by walk_at "dp") (by walk_at "dp") (h _ _)
  obtain ⟨o, es, ep, ho, hx, hdat, he, _⟩ := id hm
  refine wpAny_call_entry F.slot_dict_len hm.typeIs F.entry_dict_len ?_ (F.args_dict_len_1 _)
  show wpAny _ _ (dictSize d >>= _) _ _ s
  unfold dictSize
  refine wpAny_bind (wpAny_bind (wpAny_dictEntries ho hdat (wpAny_pure ?_)))
  show wpAny _ _ (Builtin.Dict.pendingCount d >>= _) _ _ s
  refine wpAny_bind (wpAny_pendingCount_other hd ?_)
  refine wpAny_ret_mkInt ?_
  have : es.size = xs.length := by
    have := congrArg List.length he
    simpa using this
  rw [Nat.add_zero, this]
  exact hQ'
end
end

section
set_option linter.unusedVariables false
set_option maxRecDepth 8000
section
variable {prog : Program} {w : World} {A : Around} {E : Value → Shared → Prop} {s : Shared} {env : Env} {L : Addr} {h₀ : Heap} {m mg mb : Str → Option Value} {p : Pm} {g : Heap} {σ : Sig}


theorem stretch_call {pw salt : List UInt8} {rd oc : Nat} {t1 t2 t3 t4 : Tok} {Q : Value → Shared → Prop} (G : Gl mg mb g) (P : p.Ok g) (X : C prog w p g σ s.heap) (hroom : A.depth + 100 < recursionLimit) (hun : A.units + 100 < cLine) (hh : A.handled = none)
    (hza : σ.asked.length ≤ 1000) (hzt : σ.table.length ≤ 1000)
    (h : ∀ h' t' k, KpB p.D s.heap h' → C prog w p g (askS p σ (qk pw salt rd oc)) h' → Q (.bytes (askV p σ (qk pw salt rd oc)).toArray t') { s with heap := h', toks := k }) :
    wpAny (model prog w) A (call (.ref p.fS) [.bytes pw.toArray t1, .bytes salt.toArray t2, .int (rd : Int) t3, .int (oc : Int) t4]) Q E s := by
  obtain ⟨od, doc, pm, ct, ho, hcd⟩ := id X.fn
  refine wpAny_call (code_clo (binds := [("password", .bytes pw.toArray t1), ("salt", .bytes salt.toArray t2), ("rounds", .int (rd : Int) t3), ("octets", .int (oc : Int) t4)]) (by walk_at "dp") (G.lim.keeps X.keep) ho rfl hcd (by rfl) (by exact locs rfl) (fun h₁ F₀ => ?_))
  have F := fr_hide (D := p.D) F₀
  have X₁ := X.keeps F₀.keep
  have fr := X.frsh (Nat.le_refl _)
  have G₁ := G.keeps X₁.keep
  refine wpAny_mono (Q := fun fl s' => Q (match fl with | .ret v => v | _ => .none) s') (E := fun _ _ => False) ?_ (fun _ _ x => x) fun _ _ x => x.elim
  -- question
  refine wpAny_execs_cons ?_
  walk_at "mw"
  refine wpAny_Tuple ?_
  walk_at "mw"
  refine nmL F rfl ?_
  walk_at "mw"
  refine nmL F rfl ?_
  walk_at "mw"
  refine nmL F rfl ?_
  walk_at "mw"
  refine nmL F rfl ?_
  refine wpAny_items_nil ⟨by rw [sizeLine_eq]; simp, ?_⟩
  generalize hH2 : (h₁.push { cls := .type "tuple", data := .seq [.bytes pw.toArray t1, .bytes salt.toArray t2, .int (rd : Int) t3, .int (oc : Int) t4].toArray }) = h₂
  have K₂ : Kp h₁ h₂ := fun b o e => hH2 ▸ Heap.get?_push_of_some _ e
  have hT : h₂.get? h₁.objs.size = some { cls := .type "tuple", data := .seq [.bytes pw.toArray t1, .bytes salt.toArray t2, .int (rd : Int) t3, .int (oc : Int) t4].toArray } := hH2 ▸ Heap.get?_push_size _ rfl
  have F₂ := F.keeps K₂
  have X₂ := X₁.keeps K₂
  refine stL F₂ fun h₃ F₃ S₃ => ?_
  have X₃ := X₂.local fr F₂.ns S₃
  have G₃ := G.keeps X₃.keep
  have hTL : h₁.objs.size ≠ s.heap.objs.size := Nat.ne_of_gt F.ns.lt
  have hT₃ := S₃.extBut _ _ hTL hT
  have hq : IsTupleKey (partKind prog w) h₃ (qk pw salt rd oc) h₁.objs.size := ⟨_, _, _, hT₃, rfl, rfl, .cons (by simp [partKind, isPart]) (.cons (by simp [partKind, isPart]) (.cons (by simp [partKind, isPart]) (.cons (by simp [partKind, isPart]) .nil)))⟩
  -- asked.append(..)
  obtain ⟨vs, hA, aA⟩ := id X₃.asked
  obtain ⟨nA, hA'⟩ := id hA
  dsimp only
  refine wpAny_execs_cons (wpAny_Expr ?_)
  refine MethodCall_ (nmF X₃.c2 (Calls.getMethod_list_append hA' rfl rfl ?_))
  refine callWith_method1 ?_
  walk_at "mw"
  walk_at "mw"
  refine wpAny_isTrue_BoolOp (wpAny_allTrue_And_cons (wpAny_isTrue_value ?_))
  walk_at "mw"
  refine nmB G₃ (G.free _ (by decide)) (by boot_fast) ?_
  walk_at "mw"
  walk_at "mw"
  refine nmL F₃ rfl ?_
  walk_at "mw"
  refine nmB G₃ (G.free _ (by decide)) (by boot_fast) ?_
  refine wpAny_items_nil (isi_int fun tk => wpAny_truthy_bool ?_)
  rw [if_pos rfl]
  refine wpAny_allTrue_And_cons (wpAny_isTrue_value ?_)
  walk_at "mw"
  refine nmB G₃ (G.free _ (by decide)) (by boot_fast) ?_
  walk_at "mw"
  walk_at "mw"
  refine nmL F₃ rfl ?_
  walk_at "mw"
  refine nmB G₃ (G.free _ (by decide)) (by boot_fast) ?_
  refine wpAny_items_nil (isi_int fun tk2 => wpAny_truthy_bool ?_)
  rw [if_pos rfl]
  refine wpAny_allTrue_And_nil ?_
  rw [if_pos rfl]
  refine nmL F₃ rfl (wpAny_items_nil ?_)
  refine wpAny_list_append_plain hA (fun h₄ e₄ S₄ => ?_) (by rw [List.size_toArray, aA.length, sizeLine_eq]; omega)
  have X₄ := X₃.app P hA aA S₄ (by simpa using e₄) ⟨_, rfl, hq⟩
  have K₄ : KpB p.D h₃ h₄ := fun b o hb e => S₄.extBut b o (fun q => hb (q ▸ .head _)) e
  have F₄ := fr_kpb F₃ K₄ fr.D
  have G₄ := G.keeps X₄.keep
  have hTA : h₁.objs.size ≠ p.aA := fun q => by rw [q, hA'] at hT₃; simp at hT₃
  have hq₄ : IsTupleKey (partKind prog w) h₄ (qk pw salt rd oc) h₁.objs.size := let ⟨o, it, n, ho, r⟩ := hq; ⟨o, it, n, S₄.extBut _ _ hTA ho, r⟩
  obtain ⟨xs, hd, aT⟩ := id X₄.table
  have hlx : xs.length = σ.table.length := aT.length
  have hu : ∀ B : Around, B.units ≤ A.units + 10 → (tupleKind (partKind prog w)).room B.in1 := fun B hB => by show B.units + 1 < cLine; omega
  have hu3 : (A.deeper (envX "law.<locals>.stretch" (scoOf stS) s.heap.objs.size p.fS (.ref p.cS) (clS p))).units ≤ A.units + 10 := by show A.units + 3 ≤ A.units + 10; omega
  dsimp only
  refine wpAny_execs_cons ?_
  walk_at "mw"
  walk_at "mw"
  refine nmL F₄ rfl (nmF X₄.c4 (not_in_of (r := (atKey xs (qk pw salt rd oc)).isSome) (fun Q' hQ' => wpAny_in_heap (hu _ hu3) hq₄ P.sys hd hQ') (wpAny_truthy_bool ?_)))
  have fin : ∀ (h₅ : Heap) (tk : Nat) (b : List UInt8) (σ' : Sig) (xs' : List (QK × Addr × Value)) (a' : Addr) (t' : Tok), KpB p.D h₄ h₅ → C prog w p g σ' h₅ → Fr (hideAll s.heap p.D) s.heap.objs.size h₅ (fun y => if y = PySem.Str.ofString "question" then some (Value.ref h₁.objs.size) else [(PySem.Str.ofString "password", Value.bytes pw.toArray t1), (PySem.Str.ofString "salt", .bytes salt.toArray t2), (PySem.Str.ofString "rounds", .int (rd : Int) t3), (PySem.Str.ofString "octets", .int (oc : Int) t4)].reverse.lookup y) →
      IsTupleKey (partKind prog w) h₅ (qk pw salt rd oc) h₁.objs.size → h₅.DictOfH (tupleKind (partKind prog w)) p.tA xs' → atKey xs' (qk pw salt rd oc) = some (a', .bytes b.toArray t') → σ' = askS p σ (qk pw salt rd oc) → b = askV p σ (qk pw salt rd oc) →
      wpAny (model prog w) (A.deeper (envX "law.<locals>.stretch" (scoOf stS) s.heap.objs.size p.fS (.ref p.cS) (clS p))) (execs ((bodOf stS).drop 3) (envX "law.<locals>.stretch" (scoOf stS) s.heap.objs.size p.fS (.ref p.cS) (clS p)))
        (fun fl s' => Q (match fl with | .ret v => v | _ => .none) s') (fun _ _ => False) { s with heap := h₅, toks := tk } := by
    intro h₅ tk b σ' xs' a' t' K₅ X₅ F₅ hq₅ hd₅ hat e1 e2
    subst e1; subst e2
    refine wpAny_execs_cons ?_
    walk_at "mw"
    walk_at "mw"
    refine nmF X₅.c4 (nmL F₅ rfl (tail_any (s := ⟨_, _, _, _, _⟩) hd₅.typeIs slot_dict_getitem.lookup (wpAny_getItem_heap (hu _ hu3) hq₅ hd₅ hat ?_) (by with_unfolding_all rfl)))
    exact h _ _ _ (kpb_of F₅) X₅
  dsimp only
  rcases look_at (k := qk pw salt rd oc) aT with ⟨e1, e2⟩ | ⟨a', v', b', tk', e1, e2, rfl⟩
  · rw [e1]
    rw [if_pos (by rfl)]
    have e2' : look σ.table (qk pw salt rd oc) = none := e2
    have hv' : (Sig.table ⟨σ.asked ++ [qk pw salt rd oc], σ.table⟩).length = σ.table.length := rfl
    refine wpAny_execs_cons (wpAny_Assign_Subscript ?_)
    walk_at "mw"
    refine nmG G₄ G.n_lm (callWith_F G₄.f_lm.at ?_)
    walk_at "mw"
    refine wpAny_List ?_
    walk_at "mw"
    obtain ⟨va, hla, hia⟩ := id X₄.answers
    obtain ⟨th, hHa⟩ := X₄.c3
    have hva : va.length = 12 := by rw [hia.length, List.length_map, P.len]
    refine wpAny_mono (Q := fun v s₁ => ∃ tv tk, v = .int ((ansAt p σ.table.length : Nat) : Int) tv ∧ s₁ = { s with heap := h₄, toks := tk }) (E := fun _ _ => False) ?_ ?_ fun _ _ e => e
    · walk_at "mw"
      walk_at "mw"
      walk_at "mw"
      refine nmB G₄ (G.free _ (by decide)) (by boot_fast) ?_
      walk_at "mw"
      walk_at "mw"
      refine nmF X₄.c4 (wpAny_items_nil (len_dictH P.sys hd (by walk_at "dp") fun tl kl => ?_))
      walk_at "mw"
      refine lt_int (wpAny_truthy_bool ?_)
      by_cases h12 : σ.table.length < 12
      · rw [if_pos (by simp; omega)]
        walk_at "mw"
        refine nmF X₄.c1 ?_
        walk_at "mw"
        refine nmB G₄ (G.free _ (by decide)) (by boot_fast) ?_
        walk_at "mw"
        walk_at "mw"
        refine nmF X₄.c4 (wpAny_items_nil (len_dictH P.sys hd (by walk_at "dp") fun tl2 kl2 => ?_))
        obtain ⟨vv, hvv⟩ : ∃ vv, va[σ.table.length]? = some vv := ⟨va[σ.table.length]'(by walk_at "dp"), List.getElem?_eq_getElem (by walk_at "dp")⟩
        obtain ⟨x, tx, rfl, hx⟩ := IntsAre.at hia _ vv hvv
        refine item_list hla (by walk_at "dp") (by walk_at "dp") (x := .int x tx) (by rw [hlx]; simpa using hvv) ?_
        refine ⟨tx, _, ?_, rfl⟩
        have hx2 : p.ans[σ.table.length]? = some (p.ans.getD σ.table.length 0) := by
          rw [List.getD, List.getElem?_eq_getElem (by rw [P.len]; exact h12)]; simp
        rw [List.getElem?_map, hx2] at hx
        simp only [Option.map_some, Option.some.injEq] at hx
        rw [← hx, ansAt, if_pos h12]
      · rw [if_neg (by simp; omega)]
        have ha0 : ansAt p σ.table.length = 0 := by rw [ansAt, if_neg h12]
        refine wpAny_Constant_int ?_
        rw [ha0]
        exact ⟨_, _, rfl, rfl⟩
    · rintro v s₁ ⟨tv, tk, rfl, rfl⟩
      walk_at "mw"
      refine ⟨by rw [sizeLine_eq]; simp, ?_⟩
      dsimp only
      generalize hH5 : (h₄.push { cls := .type "list", data := .seq [Value.int ((ansAt p σ.table.length : Nat) : Int) tv].toArray }) = h₅
      have K₅ : Kp h₄ h₅ := fun b o e => hH5 ▸ Heap.get?_push_of_some _ e
      have hl₅ : h₅.IsList h₄.objs.size [Value.int ((ansAt p σ.table.length : Nat) : Int) tv].toArray := hH5 ▸ ⟨_, Heap.get?_push_size _ rfl, rfl, _, rfl⟩
      have X₅ := X₄.keeps K₅
      have G₅ := G₄.keeps K₅
      refine wpAny_items_cons (nmF (hHa.keeps K₅) (wpAny_items_nil ⟨G₅.f_lm.at, ?_⟩))
      have hans : ansAt p σ.table.length < 256 ^ p.n := by
        unfold ansAt
        split
        · rename_i h12
          rw [List.getD, List.getElem?_eq_getElem (by rw [P.len]; exact h12)]
          exact P.lt _ (List.getElem_mem _)
        · exact Nat.pow_pos (by decide)
      refine law_mixed_call (rs := [ansAt p σ.table.length]) (n := p.n) G₅ (by show A.depth + 1 < _; walk_at "dp") hh hl₅ (.cons _ _ .nil) (by simpa using hans) P.n16 fun h₆ t₆ k₆ K₆ => ?_
      have K46 : Kp h₄ h₆ := fun b o e => K₆ _ _ (K₅ _ _ e)
      have X₆ := X₄.keeps K46
      have F₆ := F₄.keeps K46
      have hq₆ : IsTupleKey (partKind prog w) h₆ (qk pw salt rd oc) h₁.objs.size := let ⟨o, it, n, ho, r⟩ := hq₄; ⟨o, it, n, K46 _ _ ho, r⟩
      have hd₆ : h₆.DictOfH (tupleKind (partKind prog w)) p.tA xs := let ⟨o, es, ep, ho, hx, hd, he, hk, hn⟩ := hd; ⟨o, es, ep, K46 _ _ ho, hx, hd, he, fun y hy => let ⟨o, it, n, ho, r⟩ := hk y hy; ⟨o, it, n, K46 _ _ ho, r⟩, hn⟩
      refine nmF X₆.c4 (nmL F₆ rfl (wpAny_setItem_heap (hu _ hu3) hq₆ hd₆ (fun h₇ hd₇ S₇ => ?_) (by rw [hlx, sizeLine_eq]; omega)))
      rw [storedH_new e1] at hd₇
      have ex : xorAll [ansAt p σ.table.length] = ansAt p σ.table.length := by simp [xorAll]
      rw [ex] at hd₇
      have X₇ := X₆.put P hd₆ aT S₇ hd₇
      have K₇ : KpB p.D h₆ h₇ := fun b o hb e => S₇.extBut b o (fun q => hb (q ▸ .tail _ (.head _))) e
      refine wpAny_execs_nil ?_
      have hq₇ : IsTupleKey (partKind prog w) h₇ (qk pw salt rd oc) h₁.objs.size := by
        obtain ⟨o, it, n, ho, hc, hdd, r⟩ := hq₆
        obtain ⟨oT, _, _, hoT, _, hdT, _⟩ := hd₆
        exact ⟨o, it, n, S₇.extBut _ _ (fun q => by rw [q, hoT] at ho; cases ho; rw [hdT] at hdd; cases hdd) ho, hc, hdd, r⟩
      refine fin h₇ _ _ _ _ _ _ (KpB.trans (KpB.ofKp K46) K₇) X₇ (fr_kpb F₆ K₇ fr.D) hq₇ hd₇ (atKey_snoc e1) ?_ ?_
      · unfold askS
        rw [e2']
      · unfold askV
        rw [e2']
  · rw [e1]
    rw [if_neg (by simp)]
    refine wpAny_execs_nil ?_
    refine fin h₄ _ b' _ xs a' tk' (fun _ _ _ e => e) X₄ F₄ hq₄ hd e1 ?_ ?_
    · unfold askS
      rw [show look σ.table (qk pw salt rd oc) = some b' from e2]
    · unfold askV
      rw [show look σ.table (qk pw salt rd oc) = some b' from e2]
end
end

section
set_option linter.unusedVariables false
set_option maxRecDepth 8000
section
variable {prog : Program} {w : World} {A : Around} {E : Value → Shared → Prop} {s : Shared} {env : Env} {L : Addr} {h₀ : Heap} {m mg mb : Str → Option Value} {p : Pm} {g : Heap} {σ : Sig}


theorem C.fnAt {h : Heap} (X : C prog w p g σ h) : FnAt p.fS h := let ⟨od, doc, pm, ct, a, _⟩ := X.fn; ⟨_, od, _, _, a⟩

def rq (i : Nat) (pw : List UInt8) (e : Nat) (salt r : List UInt8) : QK := qk (i.toUInt8 :: pw) (salt ++ r) (2500 * 2 ^ e) r.length

theorem round_function_call {i e : Nat} {pw salt r : List UInt8} {t1 t2 t3 t4 t5 : Tok} {Q : Value → Shared → Prop} (G : Gl mg mb g) (P : p.Ok g) (X : C prog w p g σ s.heap) (hroom : A.depth + 110 < recursionLimit) (hun : A.units + 110 < cLine) (hh : A.handled = none)
    (hza : σ.asked.length ≤ 1000) (hzt : σ.table.length ≤ 1000) (hi : i < 256) (he : e ≤ 1000) (hpw : pw.length ≤ 1000) (hsa : salt.length ≤ 1000) (hr : r.length ≤ 1000)
    (h : ∀ h' t' k, KpB p.D s.heap h' → C prog w p g (askS p σ (rq i pw e salt r)) h' → Q (.bytes (askV p σ (rq i pw e salt r)).toArray t') { s with heap := h', toks := k }) :
    wpAny (model prog w) A (call (.ref 42) [.int (i : Int) t1, .bytes pw.toArray t2, .int (e : Int) t3, .bytes salt.toArray t4, .bytes r.toArray t5, .ref p.fS]) Q E s := by
  have Gs := G.keeps X.keep
  refine call_def (binds := [("i", .int (i : Int) t1), ("passphrase", .bytes pw.toArray t2), ("e", .int (e : Int) t3), ("salt", .bytes salt.toArray t4), ("r", .bytes r.toArray t5), ("pbkdf2", .ref p.fS)]) (by walk_at "dp") Gs.lim Gs.f_rf (by intro _ _; rfl) (by exact locs rfl) fun h₁ F => ?_
  have X₁ := X.keeps F.keep
  have G₁ := G.keeps X₁.keep
  obtain ⟨tb, hb⟩ := G.base
  obtain ⟨tr, hrn⟩ := G.rnd
  refine wpAny_execs_cons ?_
  walk_at "mw"
  walk_at "mw"
  refine nmL F rfl (callWith_F X₁.fnAt ?_)
  walk_at "mw"
  walk_at "mw"
  walk_at "mw"
  refine nmB G₁ (G.free _ (by decide)) (by boot_fast) ?_
  refine PyProof.Rows.callWith_type1 ?_
  walk_at "mw"
  refine wpAny_List ?_
  walk_at "mw"
  refine nmL F rfl (wpAny_items_nil ⟨by rw [sizeLine_eq]; simp, wpAny_items_nil ?_⟩)
  dsimp only
  generalize hH2 : (h₁.push { cls := .type "list", data := .seq [Value.int (i : Int) t1].toArray }) = h₂
  have K₂ : Kp h₁ h₂ := fun b o e => hH2 ▸ Heap.get?_push_of_some _ e
  have hl₂ : h₂.IsList h₁.objs.size [Value.int (i : Int) t1].toArray := hH2 ▸ ⟨_, Heap.get?_push_size _ rfl, rfl, _, rfl⟩
  refine call_bytes_ints (ns := [(i : Int)]) hl₂ (.cons _ _ .nil) (by simp; omega) (by rw [sizeLine_eq]; simp) hh fun h₃ t₃ k₃ K₃ => ?_
  have K13 : Kp h₁ h₃ := fun b o e => K₃ _ _ (K₂ _ _ e)
  have F₃ := F.keeps K13
  have X₃ := X₁.keeps K13
  have G₃ := G.keeps X₃.keep
  have eb : byteArr [(i : Int)] = [i.toUInt8].toArray := by simp [byteArr]
  rw [eb]
  refine nmL F₃ rfl (KBy.add_bytes (by simp; omega) fun t₄ k₄ => ?_)
  walk_at "mw"
  walk_at "mw"
  refine nmL F₃ rfl (nmL F₃ rfl (KBy.add_bytes (by simp; omega) fun t₅ k₅ => ?_))
  walk_at "mw"
  walk_at "mw"
  walk_at "mw"
  refine nmG G₃ hb (nmL F₃ rfl (lshift_int_small (by walk_at "dp") (by walk_at "dp") (by decide) ?_))
  refine nmG G₃ hrn (floordiv_int (by decide) ?_)
  walk_at "mw"
  walk_at "mw"
  refine nmB G₃ (G.free _ (by decide)) (by boot_fast) ?_
  walk_at "mw"
  walk_at "mw"
  refine nmL F₃ rfl (wpAny_items_nil (len_bytes (by simp; omega) ?_))
  refine wpAny_items_nil ⟨X₃.fnAt, ?_⟩
  have e1 : [i.toUInt8].toArray ++ pw.toArray = (i.toUInt8 :: pw).toArray := by simp
  have e2 : salt.toArray ++ r.toArray = (salt ++ r).toArray := by simp
  have e3 : (10000 * 2 ^ (e : Int).toNat : Int).fdiv 4 = ((2500 * 2 ^ e : Nat) : Int) := by
    have : (10000 * 2 ^ (e : Int).toNat : Int) = 4 * ((2500 * 2 ^ e : Nat) : Int) := by
      rw [Int.toNat_natCast]; push_cast; omega
    rw [this]
    exact Int.mul_fdiv_cancel_left _ (by decide)
  have e4 : ((r.toArray.size : Nat) : Int) = (r.length : Int) := by simp
  rw [e1, e2, e3, e4]
  refine stretch_call (rd := 2500 * 2 ^ e) (oc := r.length) G P X₃ (by show A.depth + 1 + 100 < _; walk_at "dp") (by show A.units + 3 + 100 < _; walk_at "dp") hh hza hzt fun h₅ t₆ k₆ K₅ X₅ => ?_
  exact h h₅ t₆ _ (KpB.trans (KpB.ofKp fun b o e => K13 _ _ (F.keep _ _ e)) K₅) X₅
end
end

section
set_option linter.unusedVariables false
set_option maxRecDepth 8000
section
variable {prog : Program} {w : World} {A : Around} {E : Value → Shared → Prop} {s : Shared} {env : Env} {L : Addr} {h₀ : Heap} {m mg mb : Str → Option Value} {p : Pm} {g : Heap} {σ : Sig}

theorem slice_raw {value slice : PySem.Expr} {b : List UInt8} {t : Tok} {l u : Value} {lo hi : Option Int} {Q : Value → Shared → Prop} (hl : IsPart l lo) (hu : IsPart u hi) (hz : b.length ≤ 16777216)
    (h : ∀ h' t' k, Kp s.heap h' → Q (.bytes ((b.drop (lo.elim 0 (clipAt b.length))).take (hi.elim b.length (clipAt b.length) - lo.elim 0 (clipAt b.length))).toArray t') { s with heap := h', toks := k })
    (hs : subscripted slice false (.bytes b.toArray t) (.ref s.heap.objs.size) = operate [.ref s.heap.objs.size, .bytes b.toArray t] (getItem (.bytes b.toArray t) (.ref s.heap.objs.size)) := by with_unfolding_all rfl)
    (ht : ∀ r, letTemporaryGo value (.bytes b.toArray t) r = pure () := by intro _; with_unfolding_all rfl) :
    wpAny (model prog w) A (subscriptTail value slice (.bytes b.toArray t) (.ref s.heap.objs.size)) Q E { s with heap := s.heap.push { cls := .type "slice", data := .fields #[l, u, .none] } } := by
  have e := KBc.picked_eq b.toArray lo hi
  rw [List.size_toArray] at e
  exact tail_of_ItemOn ⟨"bytes", _, FB.slot_bytes_getitem.lookup, typeIs_bytes _ _ _, getItem_meets (typeIs_bytes _ _ _) (by decide) FB.slot_bytes_getitem FB.entry_bytes_getitem (FB.args_bytes_getitem_2 _ _) (KBc.meets_slice2 b.toArray t _ hl hu)
    ⟨Heap.IsSliceOf.new _ _ _ _, Nat.le_trans (KBc.size_picked_le b.toArray lo hi) (by rw [List.size_toArray, sizeLine_eq]; exact hz), fun t' k => by
      rw [e]
      exact h _ _ _ fun _ _ e => Heap.get?_push_of_some _ e⟩⟩ hs ht

theorem sub_ri_reversed : isSubtype (.type "range_iterator") (.type "reversed") = pure false := by rw [isSubtype_type]; kernel_rfl

theorem call_range_reversed {r : Addr} {a b c : Int} {t u v : Tok} {Q : Value → Shared → Prop} (hr : IsRange s.heap r a b c t u v)
    (hsm : (Builtin.Range.rangeFitsLong a && Builtin.Range.rangeFitsLong b && Builtin.Range.rangeFitsLong c && Builtin.Range.rangeFitsLong (-c) && Builtin.Range.rangeFitsLong (a - c) && Builtin.Range.rangeFitsLong (Builtin.Range.rangeSize a b c)) = true)
    (h : Q (.ref s.heap.objs.size) { s with heap := s.heap.push { cls := .type "range_iterator", data := .fields #[rawInt (a + (Builtin.Range.rangeSize a b c - 1) * c), rawInt (Builtin.Range.rangeSize a b c), rawInt (-c)] } }) :
    wpAny (model prog w) A (call (.builtin "range.__reversed__") [.ref r]) Q E s := by
  have hT : s.TypeIs (.ref r) "range" := ⟨_, hr, rfl⟩
  refine wpAny_call_entry F.slot_range_reversed hT F.entry_range_reversed ?_ (F.args_range_reversed_1 _)
  unfold Builtin.«range.__reversed__»
  refine wpAny_bind (wpAny_of_eq (a := Value.ref r) rfl ?_)
  unfold Builtin.Range.rangeFields
  refine wpAny_bind ?_
  refine wpAny_bind (wpAny_field hr rfl (x := .int a t) rfl ?_)
  refine wpAny_bind (wpAny_of_eq (a := some a) rfl ?_)
  refine wpAny_bind (wpAny_field hr rfl (x := .int b u) rfl ?_)
  refine wpAny_bind (wpAny_of_eq (a := some b) rfl ?_)
  refine wpAny_bind (wpAny_field hr rfl (x := .int c v) rfl ?_)
  refine wpAny_bind (wpAny_of_eq (a := some c) rfl ?_)
  dsimp only
  refine wpAny_pure ?_
  dsimp only
  simp only [hsm, Bool.not_true, Bool.false_eq_true, if_false, if_true]
  exact wpAny_bind (wpAny_newObj_type (wpAny_pure ⟨_, rfl, h⟩))

theorem call_reversed_range {r : Addr} {a b c : Int} {t u v : Tok} {Q : Value → Shared → Prop} (hr : IsRange s.heap r a b c t u v)
    (hsm : (Builtin.Range.rangeFitsLong a && Builtin.Range.rangeFitsLong b && Builtin.Range.rangeFitsLong c && Builtin.Range.rangeFitsLong (-c) && Builtin.Range.rangeFitsLong (a - c) && Builtin.Range.rangeFitsLong (Builtin.Range.rangeSize a b c)) = true)
    (h : Q (.ref s.heap.objs.size) { s with heap := s.heap.push { cls := .type "range_iterator", data := .fields #[rawInt (a + (Builtin.Range.rangeSize a b c - 1) * c), rawInt (Builtin.Range.rangeSize a b c), rawInt (-c)] } }) :
    wpAny (model prog w) A (call (.type "reversed") [.ref r]) Q E s := by
  have hT : s.TypeIs (.ref r) "range" := ⟨_, hr, rfl⟩
  refine callType_other (U := "range_iterator") (Q₁ := fun obj s₁ => obj = .ref s.heap.objs.size ∧ s₁ = { s with heap := s.heap.push { cls := .type "range_iterator", data := .fields #[rawInt (a + (Builtin.Range.rangeSize a b c - 1) * c), rawInt (Builtin.Range.rangeSize a b c), rawInt (-c)] } }) (by decide +kernel) F.create_reversed ⟨_, _, F.mro_reversed⟩ F.made_reversed sub_ri_reversed (F.typeCall_reversed_1 _) ?_ ?_
  · refine codeAny_of_tree ?_
    show wpAny _ A.in1.in1 (do checkBuiltinCall "reversed.__new__" ⟨[.type "reversed", .ref r], []⟩; again (.builtin "reversed.__new__" ⟨[.type "reversed", .ref r], []⟩)) _ _ s
    refine wpAny_bind (wpAny_of_eq (F.newCall_reversed_1 _) (wpAny_pure ⟨plainId_quiet F.plain_reversed_new _, codeAny_builtin F.entry_reversed_new ?_⟩))
    rw [Around.under_plainId F.plain_reversed_new _]
    unfold Builtin.«reversed.__new__»
    refine wpAny_bind (wpAny_of_eq (newClass_reversed _) ?_)
    try dsimp only
    refine wpAny_bind (wpAny_of_eq (a := ()) (by first | rfl | kernel_rfl) ?_)
    refine wpAny_bind (wpAny_of_eq (a := ()) (by first | rfl | kernel_rfl) ?_)
    try dsimp only
    refine wpAny_bind (wpAny_specialOf hT F.slot_range_reversed.lookup ?_)
    try dsimp only
    refine wpAny_bind (wpAny_of_eq (F.slot_range_reversed.bind _) ?_)
    try dsimp only
    first
    | rw [if_neg (show ¬ ((Value.builtin "range.__reversed__" == Value.none) = true) from Bool.false_ne_true)]
    | (show wpAny _ _ (if (Value.builtin "range.__reversed__" == Value.none) = true then _ else _) _ _ _; rw [if_neg (show ¬ ((Value.builtin "range.__reversed__" == Value.none) = true) from Bool.false_ne_true)])
    refine wpAny_bind (wpAny_rule ?_)
    refine wpAny_bind (m := runValue (.call (.builtin "range.__reversed__") ⟨[.ref r], []⟩)) (show wpAny _ _ (call (.builtin "range.__reversed__") [.ref r]) _ _ _ from call_range_reversed hr hsm ?_)
    first
    | exact wpAny_pure ⟨rfl, rfl⟩
    | exact wpAny_bind (wpAny_pure (wpAny_pure ⟨rfl, rfl⟩))
  · rintro obj s₁ ⟨rfl, rfl⟩
    exact ⟨⟨_, Heap.get?_push_size _ rfl, rfl⟩, h⟩

/-- _xor's code table may grow -/
theorem C.xt30 {h h' : Heap} (x : C prog w p g σ h) (P : p.Ok g) (K : KpB [30] h h') (X : XT h') : C prog w p g σ h' := by
  obtain ⟨ps, _, ht⟩ := id x.xt
  obtain ⟨_, h30⟩ := id ht
  have ne : ∀ {b : Addr} {o : Obj}, h.get? b = some o → o.cls ≠ .none → b ≠ 30 := fun {b o} e h1 q => by
    rw [q, h30] at e
    cases e
    exact h1 rfl
  have ne' : ∀ {b : Addr} {o : Obj}, h.get? b = some o → (∀ vs, o.data ≠ .fields vs) → b ≠ 30 := fun {b o} e h1 q => by
    rw [q, h30] at e
    cases e
    exact h1 _ rfl
  have k : ∀ {b : Addr} {o : Obj}, h.get? b = some o → b ≠ 30 → h'.get? b = some o := fun {b o} e n => K b o (by simpa using n) e
  have tup : ∀ {q : QK} {a : Addr}, IsTupleKey (partKind prog w) h q a → IsTupleKey (partKind prog w) h' q a := fun {q a} ⟨o, it, n, ho, hc, hd, r⟩ =>
    ⟨o, it, n, k ho (ne' ho fun _ q => by rw [hd] at q; cases q), hc, hd, r⟩
  have cell : ∀ {c : Addr} {v : Option Value}, h.IsCell c v → h'.IsCell c v := fun {c v} ⟨o, ho, hd⟩ => ⟨o, k ho (ne' ho fun _ q => by rw [hd] at q; cases q), hd⟩
  refine ⟨fun b o e => k (x.keep b o e) (fun q => by rw [q, P.gX] at e; cases e), ?_, ?_, X, ?_, cell x.c1, cell x.c2, (let ⟨t, c⟩ := x.c3; ⟨t, cell c⟩), cell x.c4, ?_⟩
  · obtain ⟨vs, ⟨n, e⟩, a⟩ := x.asked
    exact ⟨vs, ⟨n, k e P.aX⟩, a.imp fun v q ⟨a, e, t⟩ => ⟨a, e, tup t⟩⟩
  · obtain ⟨xs, ⟨o, es, ep, ho, hx, hd, he, hk, hn⟩, a⟩ := x.table
    exact ⟨xs, ⟨o, es, ep, k ho P.tX, hx, hd, he, fun y hy => tup (hk y hy), hn⟩, a⟩
  · obtain ⟨od, doc, pm, ct, a, c2, oc, vs, t, e, b, d, r⟩ := x.fn
    cases e
    exact ⟨od, doc, pm, ct, k a (ne' a fun _ q => by cases q), _, oc, vs, t, rfl, k b P.cX, d, r⟩
  · obtain ⟨vs, ⟨o, e, hc, n, hd⟩, b⟩ := x.answers
    exact ⟨vs, ⟨o, k e (ne' e fun _ q => by rw [hd] at q; cases q), hc, n, hd⟩, b⟩
theorem kpb30 {h h' : Heap} (K : KpB [30] h h') : KpB p.D h h' := fun b o hb e => K b o (by
  intro q
  simp only [List.mem_cons, List.not_mem_nil, or_false] at q
  exact hb (by rw [q]; simp [Pm.D])) e
end
end

section
set_option linter.unusedVariables false
set_option maxRecDepth 8000
structure RS where
  σ : Sig
  l : List UInt8
  r : List UInt8
def rstep (p : Pm) (pw : List UInt8) (e : Nat) (salt : List UInt8) (x : RS) (i : Nat) : RS :=
  ⟨askS p x.σ (rq i pw e salt x.r), x.r, xorL x.l (askV p x.σ (rq i pw e salt x.r))⟩
def rounds (p : Pm) (pw : List UInt8) (e : Nat) (salt : List UInt8) (x : RS) (is : List Nat) : RS := is.foldl (rstep p pw e salt) x
def Sig.Wf (n : Nat) (σ : Sig) : Prop := ∀ x ∈ σ.table, x.2.length = n

theorem look_mem {t : List (QK × List UInt8)} {q : QK} {b : List UInt8} (h : look t q = some b) : ∃ x ∈ t, x.2 = b := by
  unfold look at h
  cases hf : t.find? (fun x => decide (x.1 = q)) with
  | none => rw [hf] at h; simp at h
  | some x => rw [hf] at h; simp at h; exact ⟨x, List.mem_of_find?_eq_some hf, h⟩
theorem askV_len {p : Pm} {σ : Sig} (h : σ.Wf p.n) (q : QK) : (askV p σ q).length = p.n := by
  unfold askV
  split
  · rename_i b e
    obtain ⟨x, hx, rfl⟩ := look_mem e
    exact h x hx
  · exact enc_length _ _
theorem askS_wf {p : Pm} {σ : Sig} (h : σ.Wf p.n) (q : QK) : (askS p σ q).Wf p.n := by
  unfold askS
  split
  · exact h
  · intro x hx
    simp only [List.mem_append, List.mem_singleton] at hx
    rcases hx with hx | rfl
    · exact h x hx
    · exact enc_length _ _
theorem askS_asked {p : Pm} {σ : Sig} (q : QK) : (askS p σ q).asked = σ.asked ++ [q] := by unfold askS; split <;> rfl
theorem askS_table {p : Pm} {σ : Sig} (q : QK) : (askS p σ q).table.length ≤ σ.table.length + 1 := by unfold askS; split <;> simp
theorem xorL_length (a b : List UInt8) : (xorL a b).length = min a.length b.length := by simp [xorL]

structure RS.Ok (p : Pm) (σ : Sig) (i : Nat) (x : RS) : Prop where
  l : x.l.length = p.n
  r : x.r.length = p.n
  wf : x.σ.Wf p.n
  a : x.σ.asked.length = σ.asked.length + i
  t : x.σ.table.length ≤ σ.table.length + i
theorem RS.Ok.step {p : Pm} {σ : Sig} {i : Nat} {x : RS} (o : x.Ok p σ i) (pw : List UInt8) (e : Nat) (salt : List UInt8) (j : Nat) : (rstep p pw e salt x j).Ok p σ (i + 1) where
  l := o.r
  r := by show (xorL _ _).length = _; rw [xorL_length, o.l, askV_len o.wf, Nat.min_self]
  wf := askS_wf o.wf _
  a := by show (askS _ _ _).asked.length = _; rw [askS_asked, List.length_append, o.a]; rfl
  t := by
    have h1 := askS_table (p := p) (σ := x.σ) (rq j pw e salt x.r)
    have h2 := o.t
    show (askS _ _ _).table.length ≤ _
    omega
theorem rounds_ok {p : Pm} {σ : Sig} {pw : List UInt8} {e : Nat} {salt : List UInt8} : ∀ (is : List Nat) {i : Nat} {x : RS}, x.Ok p σ i → (rounds p pw e salt x is).Ok p σ (i + is.length)
  | [], i, x, o => o
  | j :: is, i, x, o => by
    have := rounds_ok (pw := pw) (e := e) (salt := salt) is (o.step pw e salt j)
    rw [show i + (j :: is).length = i + 1 + is.length by simp; omega]
    exact this
theorem rounds_snoc {p : Pm} {pw : List UInt8} {e : Nat} {salt : List UInt8} {x : RS} (is : List Nat) (i : Nat) (h : i < is.length) : rounds p pw e salt x (is.take (i + 1)) = rstep p pw e salt (rounds p pw e salt x (is.take i)) is[i] := by
  unfold rounds
  rw [List.take_add_one, List.getElem?_eq_getElem h, List.foldl_append]
  rfl

/-- one turn of the rounds' loop: what the frame holds -/
structure EncV (prog : Program) (w : World) (p : Pm) (g : Heap) (s : Shared) (pw : List UInt8) (e : Nat) (flag : Bool) (ident : Nat) (σ : Sig) (ms : List UInt8) (t2 t3 t5 : Tok) (lst : List Nat) (a c : Int) (I : Addr) (i : Nat) (h' : Heap) (gens' : Array GenState) (m' : Str → Option Value) (x : RS) : Prop where
  hb : AllBare gens'
  F : Fr (hideAll s.heap p.D) s.heap.objs.size h' m'
  X : C prog w p g x.σ h'
  hx : x = rounds p pw e (saltOf flag ident) ⟨σ, ms.take p.n, ms.drop p.n⟩ (lst.take i)
  it : IsRangeIter h' I (a + (i : Int) * c) (4 - i) c
  fr : Frsh p g I
  lt : s.heap.objs.size < I
  base : (hideAll s.heap p.D).objs.size = s.heap.objs.size
  m1 : m' "passphrase" = some (.bytes pw.toArray t2)
  m2 : m' "iteration_exponent" = some (.int (e : Int) t3)
  m3 : m' "pbkdf2" = some (.ref p.fS)
  m3' : True
  m4 : m' "salt" = some (.bytes (saltOf flag ident).toArray t5)
  m5 : ∃ t, m' "l" = some (.bytes x.l.toArray t)
  m6 : ∃ t, m' "r" = some (.bytes x.r.toArray t)
def EncJ (prog : Program) (w : World) (p : Pm) (g : Heap) (s : Shared) (pw : List UInt8) (e : Nat) (flag : Bool) (ident : Nat) (σ : Sig) (ms : List UInt8) (t2 t3 t5 : Tok) (lst : List Nat) (a c : Int) (I : Addr) (i : Nat) (s' : Shared) : Prop :=
  ∃ h' k gens' m' x, s' = { s with heap := h', toks := k, gens := gens' } ∧ EncV prog w p g s pw e flag ident σ ms t2 t3 t5 lst a c I i h' gens' m' x

section
variable {prog : Program} {w : World} {A : Around} {E : Value → Shared → Prop} {s : Shared} {env : Env} {L : Addr} {h₀ : Heap} {m mg mb : Str → Option Value} {p : Pm} {g : Heap} {σ : Sig}



theorem cut_lo (b : List UInt8) (n : Nat) (hb : b.length = 2 * n) : ((b.drop ((none : Option Int).elim 0 (clipAt b.length))).take ((some (n : Int)).elim b.length (clipAt b.length) - (none : Option Int).elim 0 (clipAt b.length))) = b.take n := by
  simp only [Option.elim, clipAt_nat, List.drop_zero, Nat.sub_zero]
  rw [Nat.min_eq_left (by walk_at "dp")]
theorem cut_hi (b : List UInt8) (n : Nat) (hb : b.length = 2 * n) : ((b.drop ((some (n : Int)).elim 0 (clipAt b.length))).take ((none : Option Int).elim b.length (clipAt b.length) - (some (n : Int)).elim 0 (clipAt b.length))) = b.drop n := by
  simp only [Option.elim, clipAt_nat]
  rw [Nat.min_eq_left (by walk_at "dp")]
  exact List.take_of_length_le (by simp)

theorem unpackN {t : Addr} {items : Array Value} {n : Nat} {Q : List Value → Shared → Prop} (hh : A.handled = none) (ht : s.heap.IsTuple t items) (hn : n = items.size) (h : ∀ h', Kp s.heap h' → Q items.toList { s with heap := h' }) : wpAny (model prog w) A (unpackItems (.ref t) n none) Q E s := by
  subst hn
  exact wpAny_unpackItems_tuple hh ht fun h' S => h h' fun b o e => S b o (Nat.ne_of_lt (Heap.lt_size e)) e
theorem wpAny_pyIter_ri {r : Addr} {a b c : Int} {Q : Value → Shared → Prop} (hr : IsRangeIter s.heap r a b c) (h : Q (.ref r) s) : wpAny (model prog w) A (pyIter (.ref r)) Q E s := by
  have hT : s.TypeIs (.ref r) "range_iterator" := ⟨_, hr, rfl⟩
  refine wpAny_pyIter_slot hT F.slot_range_iterator_iter (wpAny_call_entry F.slot_range_iterator_iter hT PySem.F.entry_range_iterator_iter ?_ (F.args_range_iterator_iter_1 _))
  show wpAny _ _ (ret (.ref r)) _ _ s
  exact wpAny_pure ⟨_, rfl, "range_iterator", _, hT, F.slot_range_iterator_next.lookup, h⟩

set_option maxHeartbeats 1000000 in
theorem encrypt_call {ms pw : List UInt8} {e ident : Nat} {flag : Bool} {t1 t2 t3 t4 : Tok} {Q : Value → Shared → Prop} (G : Gl mg mb g) (P : p.Ok g) (X : C prog w p g σ s.heap) (hb : AllBare s.gens) (hroom : A.depth + 120 < recursionLimit) (hun : A.units + 120 < cLine) (hh : A.handled = none)
    (hza : σ.asked.length ≤ 900) (hzt : σ.table.length ≤ 900) (hw : σ.Wf p.n) (hms : ms.length = 2 * p.n) (hpw : pw.length ≤ 900) (he : e ≤ 900) (hid : ident < 65536)
    (h : ∀ x h' t' k gens', x = rounds p pw e (saltOf flag ident) ⟨σ, ms.take p.n, ms.drop p.n⟩ [0, 1, 2, 3] → KpB p.D s.heap h' → AllBare gens' → C prog w p g x.σ h' → Q (.bytes (x.r ++ x.l).toArray t') { s with heap := h', toks := k, gens := gens' }) :
    wpAny (model prog w) A (call (.ref 56) [.bytes ms.toArray t1, .bytes pw.toArray t2, .int (e : Int) t3, .int (ident : Int) t4, .bool flag, .ref p.fS]) Q E s := by
  have Gs := G.keeps X.keep
  have hn := P.n16
  refine call_def (binds := [("master_secret", .bytes ms.toArray t1), ("passphrase", .bytes pw.toArray t2), ("iteration_exponent", .int (e : Int) t3), ("identifier", .int (ident : Int) t4), ("extendable", .bool flag), ("pbkdf2", .ref p.fS)]) (by walk_at "dp") Gs.lim Gs.f_enc (by intro _ _; rfl) (by exact locs rfl) fun h₁ F₀ => ?_
  have F := fr_hide (D := p.D) F₀
  have X₁ := X.keeps F₀.keep
  have fr := X.frsh (Nat.le_refl _)
  have G₁ := G.keeps X₁.keep
  have hbase : (hideAll s.heap p.D).objs.size = s.heap.objs.size := hideAll_size _ _
  have hsal : (saltOf flag ident).length ≤ 8 := by
    unfold saltOf; split
    · simp
    · simp [enc_length]
  obtain ⟨tr, hrn⟩ := G.rnd
  have ev : ((ms.toArray.size : Nat) : Int).fmod 2 = 0 := by simp [hms]
  have half : ((ms.toArray.size : Nat) : Int).fdiv 2 = (p.n : Int) := by simp [hms]
  -- the test of evenness
  refine wpAny_execs_cons ?_
  walk_at "mw"
  walk_at "mw"
  walk_at "mw"
  walk_at "mw"
  refine nmB G₁ (G.free _ (by decide)) (by boot_fast) ?_
  walk_at "mw"
  walk_at "mw"
  refine nmL F rfl (wpAny_items_nil (len_bytes (by simp; omega) ?_))
  walk_at "mw"
  refine mod_int (by decide) ?_
  walk_at "mw"
  refine ne_int (wpAny_truthy_bool ?_)
  rw [ev]
  rw [if_neg (by decide)]
  refine wpAny_execs_nil ?_
  -- l
  refine wpAny_execs_cons ?_
  walk_at "mw"
  walk_at "mw"
  refine nmL F rfl ?_
  refine wpAny_Slice ?_
  refine wpAny_evalPart_none (wpAny_evalPart_some ?_)
  walk_at "mw"
  walk_at "mw"
  refine nmB G₁ (G.free _ (by decide)) (by boot_fast) ?_
  walk_at "mw"
  walk_at "mw"
  refine nmL F rfl (wpAny_items_nil (len_bytes (by simp; omega) ?_))
  walk_at "mw"
  refine floordiv_int (by decide) ?_
  rw [half]
  refine wpAny_evalPart_none ?_
  refine slice_raw .none (.int _ _) (by walk_at "dp") fun h₂ t₂ k₂ K₂ => ?_
  rw [cut_lo ms p.n hms]
  have F₂ := F.keeps K₂
  refine stL F₂ fun h₃ F₃ S₃ => ?_
  have X₃ := (X₁.keeps K₂).local fr F₂.ns S₃
  have G₃ := G.keeps X₃.keep
  -- r
  dsimp only
  refine wpAny_execs_cons ?_
  walk_at "mw"
  walk_at "mw"
  refine nmL F₃ rfl ?_
  refine wpAny_Slice ?_
  refine wpAny_evalPart_some ?_
  walk_at "mw"
  walk_at "mw"
  refine nmB G₃ (G.free _ (by decide)) (by boot_fast) ?_
  walk_at "mw"
  walk_at "mw"
  refine nmL F₃ rfl (wpAny_items_nil (len_bytes (by simp; omega) ?_))
  walk_at "mw"
  refine floordiv_int (by decide) ?_
  rw [half]
  refine wpAny_evalPart_none (wpAny_evalPart_none ?_)
  refine slice_raw (.int _ _) .none (by walk_at "dp") fun h₄ t₄ k₄ K₄ => ?_
  rw [cut_hi ms p.n hms]
  have F₄ := F₃.keeps K₄
  refine stL F₄ fun h₅ F₅ S₅ => ?_
  have X₅ := (X₃.keeps K₄).local fr F₄.ns S₅
  have G₅ := G.keeps X₅.keep
  -- salt
  dsimp only
  refine wpAny_execs_cons ?_
  walk_at "mw"
  walk_at "mw"
  refine nmG G₅ G.n_gs (callWith_F G₅.f_gs.at ?_)
  walk_at "mw"
  refine nmL F₅ rfl ?_
  walk_at "mw"
  refine nmL F₅ rfl (wpAny_items_nil ⟨G₅.f_gs.at, ?_⟩)
  refine get_salt_call G₅ (by show A.depth + 1 + 2 < _; walk_at "dp") hid fun h₅' t₅ k₅ K₅ => ?_
  have F₅' := F₅.keeps K₅
  refine stL F₅' fun h₆ F₆ S₆ => ?_
  have X₆ := (X₅.keeps K₅).local fr F₅'.ns S₆
  have G₆ := G.keeps X₆.keep
  dsimp only
  refine wpAny_execs_cons (For_inv (n := 4) (fun I i s' => EncJ prog w p g s pw e flag ident σ ms t2 t3 t₅ [0, 1, 2, 3] (0) (1) I i s') ?_ (fun I i s' hi' hJ => ?_) fun I s' hJ => ?_)
  · refine wpAny_Call_NameR ?_
    refine nmB G₆ (G.free _ (by decide)) (by boot_fast) ?_
    refine PyProof.Rows.callWith_type1 ?_
    walk_at "mw"
    refine nmG G₆ hrn (wpAny_items_nil (call_range_1 ?_))
    refine wpAny_pyIter_range (a := 0) (b := 4) (c := 1) (Heap.get?_push_size _ rfl) (by decide) ?_
    generalize hH7 : (((h₆.push { cls := .type "range", data := .fields #[.int 0 _, .int 4 _, .int 1 _] }).push { cls := .type "range_iterator", data := .fields #[rawInt 0, rawInt (Builtin.Range.rangeSize 0 4 1), rawInt 1] })) = h₇
    have K₇ : Kp h₆ h₇ := fun b o e => hH7 ▸ Heap.get?_push_of_some _ (Heap.get?_push_of_some _ e)
    refine ⟨_, rfl, h₇, _, s.gens, _, ⟨σ, ms.take p.n, ms.drop p.n⟩, by rw [← hH7], hb, F₆.keeps K₇, X₆.keeps K₇, rfl, ?_, ?_, ?_, hbase, rfl, rfl, rfl, trivial, rfl, ⟨_, rfl⟩, ⟨_, rfl⟩⟩
    · rw [← hH7]
      exact Heap.get?_push_size _ rfl
    · exact X₆.frsh (by show _ ≤ (h₆.push _).objs.size; simp [Heap.push])
    · show @LT.lt Nat _ _ _
      have hlt : @LT.lt Nat _ s.heap.objs.size h₆.objs.size := F₆.ns.lt
      show @LT.lt Nat _ _ (h₆.push _).objs.size
      have hpz : ∀ o, (h₆.push o).objs.size = h₆.objs.size + 1 := fun o => by simp [Heap.push]
      rw [hpz]
      exact Nat.lt_succ_of_lt hlt
  · obtain ⟨h', k, gens', m', x, rfl, hb', F', X', hx, it, frI, hLI, hbs, m1, m2, m3, -, m4, ⟨tl, m5⟩, tr', m6⟩ := hJ
    have hxo : x.Ok p σ i := by
      have := rounds_ok (p := p) (σ := σ) (pw := pw) (e := e) (salt := saltOf flag ident) ([0, 1, 2, 3].take i) (i := 0) (x := ⟨σ, ms.take p.n, ms.drop p.n⟩) ⟨by simp; omega, by simp; omega, hw, rfl, Nat.le_refl _⟩
      rw [← hx] at this
      simpa [Nat.min_eq_left (Nat.le_of_lt hi')] using this
    refine wpAny_pyNext_range_item it (by walk_at "dp") fun h₇ it' S₇ => ?_
    have F₇ : Fr (hideAll s.heap p.D) s.heap.objs.size h₇ m' := fr_ext F' S₇.extBut (Nat.ne_of_gt hLI) (by rw [hbs]; exact Nat.le_of_lt hLI)
    have X₇ := X'.ext S₇.extBut frI.g frI.a frI.t frI.x frI.c ⟨_, it, .inr ⟨⟨_, rfl⟩, by simp⟩⟩
    have ei : (0 + (i : Int) * (1)) = ((i : Nat) : Int) := by omega
    rw [ei]
    dsimp only
    refine wpAny_assign_Name (stL F₇ fun h₈ F₈ S₈ => ?_)
    have X₈ := X₇.local fr F₇.ns S₈
    have G₈ := G.keeps X₈.keep
    have it₈ := S₈.extBut _ _ (Nat.ne_of_gt hLI) it'
    dsimp only at F₈ ⊢
    -- f
    refine wpAny_execs_cons ?_
    walk_at "mw"
    walk_at "mw"
    refine nmG G₈ G.n_rf (callWith_F G₈.f_rf.at ?_)
    walk_at "mw"
    refine nmL F₈ rfl ?_
    walk_at "mw"
    refine nmL F₈ m1 ?_
    walk_at "mw"
    refine nmL F₈ m2 ?_
    walk_at "mw"
    refine nmL F₈ m4 ?_
    walk_at "mw"
    refine nmL F₈ m6 ?_
    walk_at "mw"
    refine nmL F₈ m3 (wpAny_items_nil ⟨G₈.f_rf.at, ?_⟩)
    refine round_function_call (σ := x.σ) G P X₈ (by show A.depth + 1 + 110 < _; walk_at "dp") (by show A.units + 3 + 110 < _; walk_at "dp") hh (by rw [hxo.a]; omega) (by have := hxo.t; omega) (by walk_at "dp") (by walk_at "dp") (by walk_at "dp") (by walk_at "dp") (by rw [hxo.r]; omega) fun h₉ t₉ k₉ K₉ X₉ => ?_
    have F₉ := fr_kpb F₈ K₉ fr.D
    have it₉ := K₉ _ _ frI.D it₈
    refine stL F₉ fun h₁₀ F₁₀ S₁₀ => ?_
    have X₁₀ := X₉.local fr F₉.ns S₁₀
    have G₁₀ := G.keeps X₁₀.keep
    have it₁₀ := S₁₀.extBut _ _ (Nat.ne_of_gt hLI) it₉
    dsimp only at F₁₀ ⊢
    -- the swap
    refine wpAny_execs_cons (Assign_Tuple_swapped (names := ["l", "r"]) ?_ (by rfl) (by rfl))
    refine wpAny_Tuple ?_
    walk_at "mw"
    refine nmL F₁₀ m6 ?_
    walk_at "mw"
    walk_at "mw"
    refine nmG G₁₀ G.n_xor (callWith_F G₁₀.f_xor.at ?_)
    walk_at "mw"
    refine nmL F₁₀ m5 ?_
    walk_at "mw"
    refine nmL F₁₀ rfl (wpAny_items_nil ⟨G₁₀.f_xor.at, ?_⟩)
    refine xor_call G₁₀ X₁₀.xt hb' (by show A.depth + 1 + 100 < _; walk_at "dp") hh (by rw [hxo.l, askV_len hxo.wf]) (by rw [hxo.l]; omega) fun h₁₁ t₁₁ k₁₁ gens₁₁ K₁₁ XT₁₁ hb₁₁ => ?_
    have F₁₁ := fr_kpb F₁₀ (kpb30 K₁₁) fr.D
    have X₁₁ := X₁₀.xt30 P K₁₁ XT₁₁
    have it₁₁ := kpb30 K₁₁ _ _ frI.D it₁₀
    refine wpAny_items_nil ⟨by rw [sizeLine_eq]; simp, ?_⟩
    dsimp only
    generalize hH12 : (h₁₁.push { cls := .type "tuple", data := .seq [Value.bytes x.r.toArray tr', .bytes (xorL x.l (askV p x.σ (rq i pw e (saltOf flag ident) x.r))).toArray t₁₁].toArray }) = h₁₂
    have K₁₂ : Kp h₁₁ h₁₂ := fun b o e => hH12 ▸ Heap.get?_push_of_some _ e
    have hT₁₂ : h₁₂.IsTuple h₁₁.objs.size [Value.bytes x.r.toArray tr', .bytes (xorL x.l (askV p x.σ (rq i pw e (saltOf flag ident) x.r))).toArray t₁₁].toArray := hH12 ▸ ⟨_, Heap.get?_push_size _ rfl, rfl, _, rfl⟩
    refine unpackN hh hT₁₂ rfl fun h₁₃ K₁₃ => ?_
    have F₁₃ := (F₁₁.keeps K₁₂).keeps K₁₃
    have X₁₃ := (X₁₁.keeps K₁₂).keeps K₁₃
    have it₁₃ := K₁₃ _ _ (K₁₂ _ _ it₁₁)
    refine wpAny_bind (bindName_ (stL F₁₃ fun h₁₄ F₁₄ S₁₄ => ?_))
    have X₁₄ := X₁₃.local fr F₁₃.ns S₁₄
    have it₁₄ := S₁₄.extBut _ _ (Nat.ne_of_gt hLI) it₁₃
    refine wpAny_bind (bindName_ (stL F₁₄ fun h₁₅ F₁₅ S₁₅ => ?_))
    have X₁₅ := X₁₄.local fr F₁₄.ns S₁₅
    have it₁₅ := S₁₅.extBut _ _ (Nat.ne_of_gt hLI) it₁₄
    refine wpAny_pure (wpAny_execs_nil ?_)
    dsimp only at F₁₅ ⊢
    have e1 := rounds_snoc (p := p) (pw := pw) (e := e) (salt := saltOf flag ident) (x := ⟨σ, ms.take p.n, ms.drop p.n⟩) [0, 1, 2, 3] i hi'
    rw [← hx] at e1
    have e2 : [0, 1, 2, 3][i] = i := by
      rcases i with _ | _ | _ | _ | i <;> first | rfl | omega
    rw [e2] at e1
    refine ⟨h₁₅, _, gens₁₁, _, _, rfl, hb₁₁, F₁₅, X₁₅, e1.symm, ?_, frI, hLI, hbs, m1, m2, m3, trivial, m4, ⟨_, rfl⟩, ⟨_, rfl⟩⟩
    have ea : (0 + ((i + 1 : Nat) : Int) * (1)) = (0 + (i : Int) * (1)) + (1) := by omega
    have eb : (4 - ((i + 1 : Nat) : Int)) = 4 - (i : Int) - 1 := by omega
    rw [ea, eb]
    exact it₁₅
  · obtain ⟨h', k, gens', m', x, rfl, hb', F', X', hx, it, frI, hLI, hbs, m1, m2, m3, -, m4, ⟨tl, m5⟩, tr', m6⟩ := hJ
    have hxo : x.Ok p σ 4 := by
      have := rounds_ok (p := p) (σ := σ) (pw := pw) (e := e) (salt := saltOf flag ident) ([0, 1, 2, 3].take 4) (i := 0) (x := ⟨σ, ms.take p.n, ms.drop p.n⟩) ⟨by simp; omega, by simp; omega, hw, rfl, Nat.le_refl _⟩
      rw [← hx] at this
      simpa using this
    refine wpAny_pyNext_range_end hh it (by walk_at "dp") fun h₇ S₇ => ?_
    have F₇ : Fr (hideAll s.heap p.D) s.heap.objs.size h₇ m' := fr_ext F' S₇ (Nat.ne_of_gt hLI) (by rw [hbs]; exact Nat.le_of_lt hLI)
    have X₇ := X'.ext S₇ frI.g frI.a frI.t frI.x frI.c ⟨_, it, .inr ⟨⟨_, rfl⟩, by simp⟩⟩
    dsimp only
    refine wpAny_execs_cons ?_
    walk_at "mw"
    walk_at "mw"
    refine nmL F₇ m6 (nmL F₇ m5 (KBy.add_bytes (by simp [hxo.l, hxo.r]; omega) fun t₈ k₈ => ?_))
    have e2 : x.r.toArray ++ x.l.toArray = (x.r ++ x.l).toArray := by simp
    rw [e2]
    exact h x h₇ t₈ _ gens' hx (kpb_of F₇) hb' X₇
end
end

section
set_option linter.unusedVariables false
set_option maxRecDepth 8000
section
variable {prog : Program} {w : World} {A : Around} {E : Value → Shared → Prop} {s : Shared} {env : Env} {L : Addr} {h₀ : Heap} {m mg mb : Str → Option Value} {p : Pm} {g : Heap} {σ : Sig}


set_option maxHeartbeats 1000000 in
theorem decrypt_call {ms pw : List UInt8} {e ident : Nat} {flag : Bool} {t1 t2 t3 t4 : Tok} {Q : Value → Shared → Prop} (G : Gl mg mb g) (P : p.Ok g) (X : C prog w p g σ s.heap) (hb : AllBare s.gens) (hroom : A.depth + 120 < recursionLimit) (hun : A.units + 120 < cLine) (hh : A.handled = none)
    (hza : σ.asked.length ≤ 900) (hzt : σ.table.length ≤ 900) (hw : σ.Wf p.n) (hms : ms.length = 2 * p.n) (hpw : pw.length ≤ 900) (he : e ≤ 900) (hid : ident < 65536)
    (h : ∀ x h' t' k gens', x = rounds p pw e (saltOf flag ident) ⟨σ, ms.take p.n, ms.drop p.n⟩ [3, 2, 1, 0] → KpB p.D s.heap h' → AllBare gens' → C prog w p g x.σ h' → Q (.bytes (x.r ++ x.l).toArray t') { s with heap := h', toks := k, gens := gens' }) :
    wpAny (model prog w) A (call (.ref 63) [.bytes ms.toArray t1, .bytes pw.toArray t2, .int (e : Int) t3, .int (ident : Int) t4, .bool flag, .ref p.fS]) Q E s := by
  have Gs := G.keeps X.keep
  have hn := P.n16
  refine call_def (binds := [("encrypted_master_secret", .bytes ms.toArray t1), ("passphrase", .bytes pw.toArray t2), ("iteration_exponent", .int (e : Int) t3), ("identifier", .int (ident : Int) t4), ("extendable", .bool flag), ("pbkdf2", .ref p.fS)]) (by walk_at "dp") Gs.lim Gs.f_dec (by intro _ _; rfl) (by exact locs rfl) fun h₁ F₀ => ?_
  have F := fr_hide (D := p.D) F₀
  have X₁ := X.keeps F₀.keep
  have fr := X.frsh (Nat.le_refl _)
  have G₁ := G.keeps X₁.keep
  have hbase : (hideAll s.heap p.D).objs.size = s.heap.objs.size := hideAll_size _ _
  have hsal : (saltOf flag ident).length ≤ 8 := by
    unfold saltOf; split
    · simp
    · simp [enc_length]
  obtain ⟨tr, hrn⟩ := G.rnd
  have ev : ((ms.toArray.size : Nat) : Int).fmod 2 = 0 := by simp [hms]
  have half : ((ms.toArray.size : Nat) : Int).fdiv 2 = (p.n : Int) := by simp [hms]
  -- the test of evenness
  refine wpAny_execs_cons ?_
  walk_at "mw"
  walk_at "mw"
  walk_at "mw"
  walk_at "mw"
  refine nmB G₁ (G.free _ (by decide)) (by boot_fast) ?_
  walk_at "mw"
  walk_at "mw"
  refine nmL F rfl (wpAny_items_nil (len_bytes (by simp; omega) ?_))
  walk_at "mw"
  refine mod_int (by decide) ?_
  walk_at "mw"
  refine ne_int (wpAny_truthy_bool ?_)
  rw [ev]
  rw [if_neg (by decide)]
  refine wpAny_execs_nil ?_
  -- l
  refine wpAny_execs_cons ?_
  walk_at "mw"
  walk_at "mw"
  refine nmL F rfl ?_
  refine wpAny_Slice ?_
  refine wpAny_evalPart_none (wpAny_evalPart_some ?_)
  walk_at "mw"
  walk_at "mw"
  refine nmB G₁ (G.free _ (by decide)) (by boot_fast) ?_
  walk_at "mw"
  walk_at "mw"
  refine nmL F rfl (wpAny_items_nil (len_bytes (by simp; omega) ?_))
  walk_at "mw"
  refine floordiv_int (by decide) ?_
  rw [half]
  refine wpAny_evalPart_none ?_
  refine slice_raw .none (.int _ _) (by walk_at "dp") fun h₂ t₂ k₂ K₂ => ?_
  rw [cut_lo ms p.n hms]
  have F₂ := F.keeps K₂
  refine stL F₂ fun h₃ F₃ S₃ => ?_
  have X₃ := (X₁.keeps K₂).local fr F₂.ns S₃
  have G₃ := G.keeps X₃.keep
  -- r
  dsimp only
  refine wpAny_execs_cons ?_
  walk_at "mw"
  walk_at "mw"
  refine nmL F₃ rfl ?_
  refine wpAny_Slice ?_
  refine wpAny_evalPart_some ?_
  walk_at "mw"
  walk_at "mw"
  refine nmB G₃ (G.free _ (by decide)) (by boot_fast) ?_
  walk_at "mw"
  walk_at "mw"
  refine nmL F₃ rfl (wpAny_items_nil (len_bytes (by simp; omega) ?_))
  walk_at "mw"
  refine floordiv_int (by decide) ?_
  rw [half]
  refine wpAny_evalPart_none (wpAny_evalPart_none ?_)
  refine slice_raw (.int _ _) .none (by walk_at "dp") fun h₄ t₄ k₄ K₄ => ?_
  rw [cut_hi ms p.n hms]
  have F₄ := F₃.keeps K₄
  refine stL F₄ fun h₅ F₅ S₅ => ?_
  have X₅ := (X₃.keeps K₄).local fr F₄.ns S₅
  have G₅ := G.keeps X₅.keep
  -- salt
  dsimp only
  refine wpAny_execs_cons ?_
  walk_at "mw"
  walk_at "mw"
  refine nmG G₅ G.n_gs (callWith_F G₅.f_gs.at ?_)
  walk_at "mw"
  refine nmL F₅ rfl ?_
  walk_at "mw"
  refine nmL F₅ rfl (wpAny_items_nil ⟨G₅.f_gs.at, ?_⟩)
  refine get_salt_call G₅ (by show A.depth + 1 + 2 < _; walk_at "dp") hid fun h₅' t₅ k₅ K₅ => ?_
  have F₅' := F₅.keeps K₅
  refine stL F₅' fun h₆ F₆ S₆ => ?_
  have X₆ := (X₅.keeps K₅).local fr F₅'.ns S₆
  have G₆ := G.keeps X₆.keep
  dsimp only
  refine wpAny_execs_cons (For_inv (n := 4) (fun I i s' => EncJ prog w p g s pw e flag ident σ ms t2 t3 t₅ [3, 2, 1, 0] (3) (-1) I i s') ?_ (fun I i s' hi' hJ => ?_) fun I s' hJ => ?_)
  · refine wpAny_Call_NameR ?_
    refine nmB G₆ (G.free _ (by decide)) (by boot_fast) ?_
    refine PyProof.Rows.callWith_type1 ?_
    walk_at "mw"
    walk_at "mw"
    refine nmB G₆ (G.free _ (by decide)) (by boot_fast) ?_
    refine PyProof.Rows.callWith_type1 ?_
    walk_at "mw"
    refine nmG G₆ hrn (wpAny_items_nil (call_range_1 (wpAny_items_nil (call_reversed_range (a := 0) (b := 4) (c := 1) (Heap.get?_push_size _ rfl) (by decide) ?_))))
    refine wpAny_pyIter_ri (Heap.get?_push_size _ rfl) ?_
    generalize hH7 : (((h₆.push { cls := .type "range", data := .fields #[.int 0 _, .int 4 _, .int 1 _] }).push { cls := .type "range_iterator", data := .fields #[rawInt (0 + (Builtin.Range.rangeSize 0 4 1 - 1) * 1), rawInt (Builtin.Range.rangeSize 0 4 1), rawInt (-1)] })) = h₇
    have K₇ : Kp h₆ h₇ := fun b o e => hH7 ▸ Heap.get?_push_of_some _ (Heap.get?_push_of_some _ e)
    refine ⟨_, rfl, h₇, _, s.gens, _, ⟨σ, ms.take p.n, ms.drop p.n⟩, by rw [← hH7], hb, F₆.keeps K₇, X₆.keeps K₇, rfl, ?_, ?_, ?_, hbase, rfl, rfl, rfl, trivial, rfl, ⟨_, rfl⟩, ⟨_, rfl⟩⟩
    · rw [← hH7]
      exact Heap.get?_push_size _ rfl
    · exact X₆.frsh (by show _ ≤ (h₆.push _).objs.size; simp [Heap.push])
    · show @LT.lt Nat _ _ _
      have hlt : @LT.lt Nat _ s.heap.objs.size h₆.objs.size := F₆.ns.lt
      show @LT.lt Nat _ _ (h₆.push _).objs.size
      have hpz : ∀ o, (h₆.push o).objs.size = h₆.objs.size + 1 := fun o => by simp [Heap.push]
      rw [hpz]
      exact Nat.lt_succ_of_lt hlt
  · obtain ⟨h', k, gens', m', x, rfl, hb', F', X', hx, it, frI, hLI, hbs, m1, m2, m3, -, m4, ⟨tl, m5⟩, tr', m6⟩ := hJ
    have hxo : x.Ok p σ i := by
      have := rounds_ok (p := p) (σ := σ) (pw := pw) (e := e) (salt := saltOf flag ident) ([3, 2, 1, 0].take i) (i := 0) (x := ⟨σ, ms.take p.n, ms.drop p.n⟩) ⟨by simp; omega, by simp; omega, hw, rfl, Nat.le_refl _⟩
      rw [← hx] at this
      simpa [Nat.min_eq_left (Nat.le_of_lt hi')] using this
    refine wpAny_pyNext_range_item it (by walk_at "dp") fun h₇ it' S₇ => ?_
    have F₇ : Fr (hideAll s.heap p.D) s.heap.objs.size h₇ m' := fr_ext F' S₇.extBut (Nat.ne_of_gt hLI) (by rw [hbs]; exact Nat.le_of_lt hLI)
    have X₇ := X'.ext S₇.extBut frI.g frI.a frI.t frI.x frI.c ⟨_, it, .inr ⟨⟨_, rfl⟩, by simp⟩⟩
    have ei : (3 + (i : Int) * (-1)) = (((3 - i) : Nat) : Int) := by omega
    rw [ei]
    dsimp only
    refine wpAny_assign_Name (stL F₇ fun h₈ F₈ S₈ => ?_)
    have X₈ := X₇.local fr F₇.ns S₈
    have G₈ := G.keeps X₈.keep
    have it₈ := S₈.extBut _ _ (Nat.ne_of_gt hLI) it'
    dsimp only at F₈ ⊢
    -- f
    refine wpAny_execs_cons ?_
    walk_at "mw"
    walk_at "mw"
    refine nmG G₈ G.n_rf (callWith_F G₈.f_rf.at ?_)
    walk_at "mw"
    refine nmL F₈ rfl ?_
    walk_at "mw"
    refine nmL F₈ m1 ?_
    walk_at "mw"
    refine nmL F₈ m2 ?_
    walk_at "mw"
    refine nmL F₈ m4 ?_
    walk_at "mw"
    refine nmL F₈ m6 ?_
    walk_at "mw"
    refine nmL F₈ m3 (wpAny_items_nil ⟨G₈.f_rf.at, ?_⟩)
    refine round_function_call (σ := x.σ) G P X₈ (by show A.depth + 1 + 110 < _; walk_at "dp") (by show A.units + 3 + 110 < _; walk_at "dp") hh (by rw [hxo.a]; omega) (by have := hxo.t; omega) (by walk_at "dp") (by walk_at "dp") (by walk_at "dp") (by walk_at "dp") (by rw [hxo.r]; omega) fun h₉ t₉ k₉ K₉ X₉ => ?_
    have F₉ := fr_kpb F₈ K₉ fr.D
    have it₉ := K₉ _ _ frI.D it₈
    refine stL F₉ fun h₁₀ F₁₀ S₁₀ => ?_
    have X₁₀ := X₉.local fr F₉.ns S₁₀
    have G₁₀ := G.keeps X₁₀.keep
    have it₁₀ := S₁₀.extBut _ _ (Nat.ne_of_gt hLI) it₉
    dsimp only at F₁₀ ⊢
    -- the swap
    refine wpAny_execs_cons (Assign_Tuple_swapped (names := ["l", "r"]) ?_ (by rfl) (by rfl))
    refine wpAny_Tuple ?_
    walk_at "mw"
    refine nmL F₁₀ m6 ?_
    walk_at "mw"
    walk_at "mw"
    refine nmG G₁₀ G.n_xor (callWith_F G₁₀.f_xor.at ?_)
    walk_at "mw"
    refine nmL F₁₀ m5 ?_
    walk_at "mw"
    refine nmL F₁₀ rfl (wpAny_items_nil ⟨G₁₀.f_xor.at, ?_⟩)
    refine xor_call G₁₀ X₁₀.xt hb' (by show A.depth + 1 + 100 < _; walk_at "dp") hh (by rw [hxo.l, askV_len hxo.wf]) (by rw [hxo.l]; omega) fun h₁₁ t₁₁ k₁₁ gens₁₁ K₁₁ XT₁₁ hb₁₁ => ?_
    have F₁₁ := fr_kpb F₁₀ (kpb30 K₁₁) fr.D
    have X₁₁ := X₁₀.xt30 P K₁₁ XT₁₁
    have it₁₁ := kpb30 K₁₁ _ _ frI.D it₁₀
    refine wpAny_items_nil ⟨by rw [sizeLine_eq]; simp, ?_⟩
    dsimp only
    generalize hH12 : (h₁₁.push { cls := .type "tuple", data := .seq [Value.bytes x.r.toArray tr', .bytes (xorL x.l (askV p x.σ (rq (3 - i) pw e (saltOf flag ident) x.r))).toArray t₁₁].toArray }) = h₁₂
    have K₁₂ : Kp h₁₁ h₁₂ := fun b o e => hH12 ▸ Heap.get?_push_of_some _ e
    have hT₁₂ : h₁₂.IsTuple h₁₁.objs.size [Value.bytes x.r.toArray tr', .bytes (xorL x.l (askV p x.σ (rq (3 - i) pw e (saltOf flag ident) x.r))).toArray t₁₁].toArray := hH12 ▸ ⟨_, Heap.get?_push_size _ rfl, rfl, _, rfl⟩
    refine unpackN hh hT₁₂ rfl fun h₁₃ K₁₃ => ?_
    have F₁₃ := (F₁₁.keeps K₁₂).keeps K₁₃
    have X₁₃ := (X₁₁.keeps K₁₂).keeps K₁₃
    have it₁₃ := K₁₃ _ _ (K₁₂ _ _ it₁₁)
    refine wpAny_bind (bindName_ (stL F₁₃ fun h₁₄ F₁₄ S₁₄ => ?_))
    have X₁₄ := X₁₃.local fr F₁₃.ns S₁₄
    have it₁₄ := S₁₄.extBut _ _ (Nat.ne_of_gt hLI) it₁₃
    refine wpAny_bind (bindName_ (stL F₁₄ fun h₁₅ F₁₅ S₁₅ => ?_))
    have X₁₅ := X₁₄.local fr F₁₄.ns S₁₅
    have it₁₅ := S₁₅.extBut _ _ (Nat.ne_of_gt hLI) it₁₄
    refine wpAny_pure (wpAny_execs_nil ?_)
    dsimp only at F₁₅ ⊢
    have e1 := rounds_snoc (p := p) (pw := pw) (e := e) (salt := saltOf flag ident) (x := ⟨σ, ms.take p.n, ms.drop p.n⟩) [3, 2, 1, 0] i hi'
    rw [← hx] at e1
    have e2 : [3, 2, 1, 0][i] = (3 - i) := by
      rcases i with _ | _ | _ | _ | i <;> first | rfl | omega
    rw [e2] at e1
    refine ⟨h₁₅, _, gens₁₁, _, _, rfl, hb₁₁, F₁₅, X₁₅, e1.symm, ?_, frI, hLI, hbs, m1, m2, m3, trivial, m4, ⟨_, rfl⟩, ⟨_, rfl⟩⟩
    have ea : (3 + ((i + 1 : Nat) : Int) * (-1)) = (3 + (i : Int) * (-1)) + (-1) := by omega
    have eb : (4 - ((i + 1 : Nat) : Int)) = 4 - (i : Int) - 1 := by omega
    rw [ea, eb]
    exact it₁₅
  · obtain ⟨h', k, gens', m', x, rfl, hb', F', X', hx, it, frI, hLI, hbs, m1, m2, m3, -, m4, ⟨tl, m5⟩, tr', m6⟩ := hJ
    have hxo : x.Ok p σ 4 := by
      have := rounds_ok (p := p) (σ := σ) (pw := pw) (e := e) (salt := saltOf flag ident) ([3, 2, 1, 0].take 4) (i := 0) (x := ⟨σ, ms.take p.n, ms.drop p.n⟩) ⟨by simp; omega, by simp; omega, hw, rfl, Nat.le_refl _⟩
      rw [← hx] at this
      simpa using this
    refine wpAny_pyNext_range_end hh it (by walk_at "dp") fun h₇ S₇ => ?_
    have F₇ : Fr (hideAll s.heap p.D) s.heap.objs.size h₇ m' := fr_ext F' S₇ (Nat.ne_of_gt hLI) (by rw [hbs]; exact Nat.le_of_lt hLI)
    have X₇ := X'.ext S₇ frI.g frI.a frI.t frI.x frI.c ⟨_, it, .inr ⟨⟨_, rfl⟩, by simp⟩⟩
    dsimp only
    refine wpAny_execs_cons ?_
    walk_at "mw"
    walk_at "mw"
    refine nmL F₇ m6 (nmL F₇ m5 (KBy.add_bytes (by simp [hxo.l, hxo.r]; omega) fun t₈ k₈ => ?_))
    have e2 : x.r.toArray ++ x.l.toArray = (x.r ++ x.l).toArray := by simp
    rw [e2]
    exact h x h₇ t₈ _ gens' hx (kpb_of F₇) hb' X₇
end
end

section
set_option linter.unusedVariables false
set_option maxRecDepth 8000
/-- a ValueError flies out to the frames fr; all that base holds stays -/
def Flies (base : Heap) (fr : List Env) (E : Value → Shared → Prop) (s : Shared) : Prop := ∀ e t h' k, Heap.FlyingW base fr e (.type "ValueError") (.ref t) h' → s.heap.UpToSlots h' → E (.ref e) { s with heap := h', toks := k }
section
variable {prog : Program} {w : World} {A : Around} {E : Value → Shared → Prop} {s : Shared} {env : Env} {L : Addr} {h₀ : Heap} {m mg mb : Str → Option Value} {p : Pm} {g base : Heap} {σ : Sig} {fr : List Env}


theorem encrypt_odd {ms : List UInt8} {t1 : Tok} {v1 v2 v3 v4 v5 : Value} {Q : Value → Shared → Prop} (G : Gl mg mb s.heap) (K : Below A base fr s.heap) (hroom : A.depth + 10 < recursionLimit) (hh : A.handled = none) (hodd : ms.length % 2 = 1) (hms : ms.length ≤ 1000) (hE : Flies base fr E s) :
    wpAny (model prog w) A (call (.ref 56) [.bytes ms.toArray t1, v1, v2, v3, v4, v5]) Q E s := by
  obtain ⟨o, pm, doc, ho, hd, hcd⟩ := G.f_enc
  refine wpAny_call (call_plain (binds := [("master_secret", .bytes ms.toArray t1), ("passphrase", v1), ("iteration_exponent", v2), ("identifier", v3), ("extendable", v4), ("pbkdf2", v5)]) (by walk_at "dp") ho hd G.lim hcd (by rfl) (by exact locs rfl) (fun h₁ F => ?_))
  have G₁ := G.fr F
  have K' := K.push (a := 56) (cd := .ref 55) (name := "encrypt") (scope := scoOf (stm 11)) F (by rfl)
  have ev : ((ms.toArray.size : Nat) : Int).fmod 2 = 1 := by rw [List.size_toArray, Int.fmod_eq_emod_of_nonneg _ (by decide)]; omega
  refine wpAny_execs_cons ?_
  walk_at "mw"
  walk_at "mw"
  walk_at "mw"
  walk_at "mw"
  refine nmB G₁ (G.free _ (by decide)) (by boot_fast) ?_
  walk_at "mw"
  walk_at "mw"
  refine nmL F rfl (wpAny_items_nil (len_bytes (by simp; omega) ?_))
  walk_at "mw"
  refine mod_int (by decide) ?_
  walk_at "mw"
  refine ne_int (wpAny_truthy_bool ?_)
  rw [ev]
  rw [if_pos (by decide)]
  refine wpAny_execs_cons (Raise_madeB PySem.F.excCall_ValueError PySem.F.excRaise_ValueError hh (nmB G₁ (G.free _ (by decide)) (by boot_fast) ⟨rfl, ?_⟩))
  walk_at "mw"
  walk_at "mw"
  refine wpAny_items_nil ⟨by rw [sizeLine_eq]; simp, fun h' e hx => ?_⟩
  refine wpAny_leaves_madeW K'.stack rfl K'.stays K'.frames hx.of fun h'' t x1 x2 x3 x4 => ?_
  exact hE e t h'' _ x1 ((Heap.UpToSlots.of_keeps F.keep).trans ((Heap.UpToSlots.of_keeps hx.keeps).trans x4))

theorem decrypt_odd {ms : List UInt8} {t1 : Tok} {v1 v2 v3 v4 v5 : Value} {Q : Value → Shared → Prop} (G : Gl mg mb s.heap) (K : Below A base fr s.heap) (hroom : A.depth + 10 < recursionLimit) (hh : A.handled = none) (hodd : ms.length % 2 = 1) (hms : ms.length ≤ 1000) (hE : Flies base fr E s) :
    wpAny (model prog w) A (call (.ref 63) [.bytes ms.toArray t1, v1, v2, v3, v4, v5]) Q E s := by
  obtain ⟨o, pm, doc, ho, hd, hcd⟩ := G.f_dec
  refine wpAny_call (call_plain (binds := [("encrypted_master_secret", .bytes ms.toArray t1), ("passphrase", v1), ("iteration_exponent", v2), ("identifier", v3), ("extendable", v4), ("pbkdf2", v5)]) (by walk_at "dp") ho hd G.lim hcd (by rfl) (by exact locs rfl) (fun h₁ F => ?_))
  have G₁ := G.fr F
  have K' := K.push (a := 63) (cd := .ref 62) (name := "decrypt") (scope := scoOf (stm 12)) F (by rfl)
  have ev : ((ms.toArray.size : Nat) : Int).fmod 2 = 1 := by rw [List.size_toArray, Int.fmod_eq_emod_of_nonneg _ (by decide)]; omega
  refine wpAny_execs_cons ?_
  walk_at "mw"
  walk_at "mw"
  walk_at "mw"
  walk_at "mw"
  refine nmB G₁ (G.free _ (by decide)) (by boot_fast) ?_
  walk_at "mw"
  walk_at "mw"
  refine nmL F rfl (wpAny_items_nil (len_bytes (by simp; omega) ?_))
  walk_at "mw"
  refine mod_int (by decide) ?_
  walk_at "mw"
  refine ne_int (wpAny_truthy_bool ?_)
  rw [ev]
  rw [if_pos (by decide)]
  refine wpAny_execs_cons (Raise_madeB PySem.F.excCall_ValueError PySem.F.excRaise_ValueError hh (nmB G₁ (G.free _ (by decide)) (by boot_fast) ⟨rfl, ?_⟩))
  walk_at "mw"
  walk_at "mw"
  refine wpAny_items_nil ⟨by rw [sizeLine_eq]; simp, fun h' e hx => ?_⟩
  refine wpAny_leaves_madeW K'.stack rfl K'.stays K'.frames hx.of fun h'' t x1 x2 x3 x4 => ?_
  exact hE e t h'' _ x1 ((Heap.UpToSlots.of_keeps F.keep).trans ((Heap.UpToSlots.of_keeps hx.keeps).trans x4))
end
end

section
set_option linter.unusedVariables false
set_option maxRecDepth 8000
/-- what the class needs of the top's objects -/
structure KF (K : Frag) : Prop where
  made : makesIn K 104 = true
  ini : findIn K (.ref 104) "__init__" = some (some (.ref 77))
  tini : typeIn K (.ref 77) = some (.type "function")
  set : findIn K (.ref 104) "__setattr__" = some (some (.builtin "object.__setattr__"))
  over : plainOver K 104 = true
  tk1 : takerIn K 104 "identifier" = some none
  tk2 : takerIn K 104 "extendable" = some none
  tk3 : takerIn K 104 "iteration_exponent" = some none
  tk4 : takerIn K 104 "ciphertext" = some none
  hasD : hasDictIn K 104 = true
  pg : plainGet K 104 "" = true
  fi1 : findIn K (.ref 104) "identifier" = some none
  fi2 : findIn K (.ref 104) "extendable" = some none
  fi3 : findIn K (.ref 104) "iteration_exponent" = some none
  fi4 : findIn K (.ref 104) "ciphertext" = some none
  fdec : findIn K (.ref 104) "decrypt" = some (some (.ref 101))
  isdec : isFn K (.ref 101) = true
  tcls : typeIn K (.ref 104) = some (.type "type")
  rd : readsIn K 104 (.type "type") = true
  fcm : findCls K (.ref 104) (.type "type") "from_master_secret" = some (.get (.builtin "classmethod.__get__") (.ref 93) .none (.ref 104))
  cm : recIn K 93 "classmethod" = some [.ref 91, .bool false]
  kcls : keepIn K (.ref 104) = true
  fn91 : fnIn K 91 = true
  ga : specialIn K (.ref 104) "__getattribute__" = some (some (.builtin "type.__getattribute__"))

/-- a method -/
def MthIs (h : Heap) (f c : Addr) (name qual : Str) (st : Stmt) : Prop :=
  ∃ od pm doc an, h.get? f = some { cls := .type "function", dict := od, data := .func (fnX name qual (parOf st) (bodOf st) (scoOf st) [] .none .none doc pm an (.ref c) .none) } ∧ h.CodeRec (.ref c) qual
theorem MthIs.keeps {h h' : Heap} {f c : Addr} {n q : Str} {st : Stmt} (x : MthIs h f c n q st) (k : Kp h h') : MthIs h' f c n q st :=
  let ⟨od, pm, doc, an, a, b⟩ := x; ⟨od, pm, doc, an, k _ _ a, b.keeps k⟩
def stM (i : Nat) : Stmt := (bodOf (stm 15)).getD i (.Pass default)

structure Em (K : Frag) (mg : Str → Option Value) (h : Heap) : Prop where
  kf : KF K
  k : K.In h
  n_c : mg "EncryptedMasterSecret" = some (.ref 104)
  m_i : MthIs h 77 76 "__init__" "EncryptedMasterSecret.__init__" (stM 0)
  m_f : MthIs h 91 90 "from_master_secret" "EncryptedMasterSecret.from_master_secret" (stM 2)
  m_d : MthIs h 101 100 "decrypt" "EncryptedMasterSecret.decrypt" (stM 3)
theorem Em.keeps {K : Frag} {mg : Str → Option Value} {h h' : Heap} (x : Em K mg h) (k : Kp h h') : Em K mg h' := { x with k := x.k.keeps k, m_i := x.m_i.keeps k, m_f := x.m_f.keeps k, m_d := x.m_d.keeps k }
end

section
set_option maxRecDepth 100000
set_option linter.unusedVariables false
/-- a code object of the text's: its name, its long name, the first of its tokens, its row, how many arguments, its first tuple -/
def cdO (n q : Str) (t : Nat) (row k : Int) (a : Addr) (x y e : Value) (u : Nat) : Obj :=
  { cls := .type "code", data := .fields #[.str n t, .str q (t + 1), .str (Str.ofString "/claim/cut.py") (t + 2), .int row 0, .int k 0, .int 0 0, .int 0 0, .int 3 0, .ref a, .bool true, .int 181 0, .ref (a + 1), .none, x, y, e, .int u 0, .int row 0, .str (Str.ofString "/claim/cut.py") (u + 1)] }
/-- a plain def's object -/
def fnO (n : Str) (st : Stmt) (pm : Value) (c : Addr) : Obj := { cls := .type "function", data := .func (Calls.docDef n (parOf st) (bodOf st) (scoOf st) pm (.ref c) .none) }
/-- a method's object -/
def mtO (n q : Str) (st : Stmt) (pm : Value) (an : Option Addr) (c : Addr) : Obj := { cls := .type "function", data := .func (fnX n q (parOf st) (bodOf st) (scoOf st) [] .none .none .none pm an (.ref c) .none) }
/-- an entry of a namespace -/
def enO (P : Params) (x : Str) (t : Nat) (v : Value) : DictEntry := ⟨PyData.keyHash P x, .str x t, v⟩
def pmU : Value := .str (Str.ofString "shamir_mnemonic.utils") 195
def pmC : Value := .str (Str.ofString "shamir_mnemonic.cipher") 212
def pmS : Value := .str (Str.ofString "shamir_mnemonic.shamir") 278
def pmL : Value := .str (Str.ofString "law_lb0022_01") 359
def kf0 (P : Params) : Frag := [
  (20, cdO (Str.ofString "_round_bits") (Str.ofString "_round_bits") 197 6 2 15 (.ref 17) (.ref 18) (.ref 19) 202),
  (21, fnO (Str.ofString "_round_bits") (stm 5) pmU 20),
  (27, cdO (Str.ofString "bits_to_bytes") (Str.ofString "bits_to_bytes") 205 8 1 22 (.ref 24) (.ref 25) (.ref 26) 209),
  (28, fnO (Str.ofString "bits_to_bytes") (stm 6) pmU 27)]
def kf1 (P : Params) : Frag := [
  (34, cdO (Str.ofString "_xor") (Str.ofString "_xor") 214 11 2 29 (.ref 31) (.ref 32) (.ref 33) 219),
  (35, fnO (Str.ofString "_xor") (stm 8) pmC 34),
  (41, cdO (Str.ofString "_round_function") (Str.ofString "_round_function") 222 13 6 36 (.ref 38) (.ref 39) (.ref 40) 231),
  (42, fnO (Str.ofString "_round_function") (stm 9) pmC 41)]
def kf2 (P : Params) : Frag := [
  (48, cdO (Str.ofString "_get_salt") (Str.ofString "_get_salt") 234 15 2 43 (.ref 45) (.ref 46) (.ref 47) 240),
  (49, fnO (Str.ofString "_get_salt") (stm 10) pmC 48),
  (55, cdO (Str.ofString "encrypt") (Str.ofString "encrypt") 243 20 6 50 (.ref 52) (.ref 53) (.ref 54) 257),
  (56, fnO (Str.ofString "encrypt") (stm 11) pmC 55)]
def kf3 (P : Params) : Frag := [
  (62, cdO (Str.ofString "decrypt") (Str.ofString "decrypt") 260 30 6 57 (.ref 59) (.ref 60) (.ref 61) 274),
  (63, fnO (Str.ofString "decrypt") (stm 12) pmC 62),
  (114, cdO (Str.ofString "_law_number") (Str.ofString "_law_number") 363 62 2 109 (.ref 111) (.ref 112) (.ref 113) 368),
  (115, fnO (Str.ofString "_law_number") (stm 18) pmL 114)]
def kf4 (P : Params) : Frag := [
  (121, cdO (Str.ofString "_law_row") (Str.ofString "_law_row") 371 64 3 116 (.ref 118) (.ref 119) (.ref 120) 377),
  (122, fnO (Str.ofString "_law_row") (stm 19) pmL 121),
  (126, cdO (Str.ofString "_law_octets") (Str.ofString "_law_octets") 380 66 1 123 .none .none (.ref 125) 383),
  (127, fnO (Str.ofString "_law_octets") (stm 20) pmL 126)]
def kf5 (P : Params) : Frag := [
  (133, cdO (Str.ofString "_law_mixed") (Str.ofString "_law_mixed") 386 68 2 128 (.ref 130) (.ref 131) (.ref 132) 393),
  (134, fnO (Str.ofString "_law_mixed") (stm 21) pmL 133),
  (140, cdO (Str.ofString "_law_same") (Str.ofString "_law_same") 396 73 2 135 (.ref 137) (.ref 138) (.ref 139) 401),
  (141, fnO (Str.ofString "_law_same") (stm 22) pmL 140)]
def kf6 (P : Params) : Frag := [
  (145, cdO (Str.ofString "law") (Str.ofString "law") 404 75 1 142 .none .none (.ref 144) 407),
  (146, fnO (Str.ofString "law") (stm 23) pmL 145),
  (76, cdO (Str.ofString "__init__") (Str.ofString "EncryptedMasterSecret.__init__") 292 44 5 71 (.ref 73) (.ref 74) (.ref 75) 300),
  (77, mtO (Str.ofString "__init__") (Str.ofString "EncryptedMasterSecret.__init__") (stM 0) pmS none 76)]
def kf7 (P : Params) : Frag := [
  (90, cdO (Str.ofString "from_master_secret") (Str.ofString "EncryptedMasterSecret.from_master_secret") 311 53 7 85 (.ref 87) (.ref 88) (.ref 89) 322),
  (91, mtO (Str.ofString "from_master_secret") (Str.ofString "EncryptedMasterSecret.from_master_secret") (stM 2) pmS (some 94) 90),
  (100, cdO (Str.ofString "decrypt") (Str.ofString "EncryptedMasterSecret.decrypt") 337 58 3 95 (.ref 97) (.ref 98) (.ref 99) 343),
  (101, mtO (Str.ofString "decrypt") (Str.ofString "EncryptedMasterSecret.decrypt") (stM 3) pmS none 100)]
def mg0 (P : Params) : List DictEntry := [
  enO P (Str.ofString "__name__") 165 (Value.str (Str.ofString "law_lb0022_01") 359),
  enO P (Str.ofString "__doc__") 166 (Value.none),
  enO P (Str.ofString "__package__") 167 (Value.none),
  enO P (Str.ofString "__loader__") 168 (Value.builtin "__main__.__loader__#opaque"),
  enO P (Str.ofString "__spec__") 169 (Value.none),
  enO P (Str.ofString "__annotations__") 170 (Value.ref 6)]
def mg1 (P : Params) : List DictEntry := [
  enO P (Str.ofString "__builtins__") 171 (Value.ref 4),
  enO P (Str.ofString "__file__") 173 (Value.str (Str.ofString "/claim/cut.py") 172),
  enO P (Str.ofString "__cached__") 174 (Value.none),
  enO P (Str.ofString "ID_LENGTH_BITS") 188 (Value.int 15 187),
  enO P (Str.ofString "CUSTOMIZATION_STRING_ORIG") 190 (Value.bytes #[115, 104, 97, 109, 105, 114] 189),
  enO P (Str.ofString "BASE_ITERATION_COUNT") 192 (Value.int 10000 191)]
def mg2 (P : Params) : List DictEntry := [
  enO P (Str.ofString "ROUND_COUNT") 194 (Value.int 4 193),
  enO P (Str.ofString "_round_bits") 204 (Value.ref 21),
  enO P (Str.ofString "bits_to_bytes") 211 (Value.ref 28),
  enO P (Str.ofString "_xor") 221 (Value.ref 35),
  enO P (Str.ofString "_round_function") 233 (Value.ref 42),
  enO P (Str.ofString "_get_salt") 242 (Value.ref 49)]
def mg3 (P : Params) : List DictEntry := [
  enO P (Str.ofString "encrypt") 259 (Value.ref 56),
  enO P (Str.ofString "decrypt") 276 (Value.ref 63),
  enO P (Str.ofString "decrypt_cipher") 277 (Value.ref 63),
  enO P (Str.ofString "EncryptedMasterSecret") 358 (Value.ref 104),
  enO P (Str.ofString "_law_odd") 362 (Value.int 9237271112258064195694948353538909955570399 361),
  enO P (Str.ofString "_law_number") 370 (Value.ref 115)]
def mg4 (P : Params) : List DictEntry := [
  enO P (Str.ofString "_law_row") 379 (Value.ref 122),
  enO P (Str.ofString "_law_octets") 385 (Value.ref 127),
  enO P (Str.ofString "_law_mixed") 395 (Value.ref 134),
  enO P (Str.ofString "_law_same") 403 (Value.ref 141),
  enO P (Str.ofString "law") 409 (Value.ref 146)]
def kfG (P : Params) : Frag := [(3, { cls := .type "dict", data := .dict (mg0 P ++ mg1 P ++ mg2 P ++ mg3 P ++ mg4 P).toArray 29 })]
def kfC (P : Params) : Frag := [
  (2, { cls := Value.none, data := Data.dict #[] }),
  (93, { cls := .type "classmethod", dict := some 92, data := .fields #[.ref 91, .bool false] }),
  (103, { cls := .type "dict", data := .dict #[
    enO P (Str.ofString "__module__") 287 (Value.str (Str.ofString "shamir_mnemonic.shamir") 278),
    enO P (Str.ofString "__firstlineno__") 291 (Value.int 42 290),
    enO P (Str.ofString "__init__") 302 (Value.ref 77),
    enO P (Str.ofString "__eq__") 310 (Value.ref 84),
    enO P (Str.ofString "from_master_secret") 336 (Value.ref 93),
    enO P (Str.ofString "decrypt") 345 (Value.ref 101),
    enO P (Str.ofString "__static_attributes__") 350 (Value.ref 102),
    enO P (Str.ofString "__dict__") 352 (Value.ref 105),
    enO P (Str.ofString "__weakref__") 354 (Value.ref 106),
    enO P (Str.ofString "__doc__") 355 (Value.none),
    enO P (Str.ofString "__hash__") 356 (Value.none)] 5 }),
  (104, { cls := .type "type", data := .cls { name := (Str.ofString "EncryptedMasterSecret"), bases := [.type "object"], mro := [.ref 104, .type "object"], ns := 103, qualname := (Str.ofString "EncryptedMasterSecret") }, slots := #[none, none, some (.str (Str.ofString "EncryptedMasterSecret") 280), some (.str (Str.ofString "EncryptedMasterSecret") 288), some (.builtin "object.__new__"), some (.bool true)] })]
/-- the part of the heap that is leaned on -/
def kf (P : Params) : Frag := kf0 P ++ (kf1 P ++ (kf2 P ++ (kf3 P ++ (kf4 P ++ (kf5 P ++ (kf6 P ++ (kf7 P ++ (kfG P ++ (kfC P)))))))))
def kfAs : List Addr := [20, 21, 27, 28, 34, 35, 41, 42, 48, 49, 55, 56, 62, 63, 114, 115, 121, 122, 126, 127, 133, 134, 140, 141, 145, 146, 76, 77, 90, 91, 100, 101, 3, 2, 93, 103, 104]
theorem kfAs_eq (P : Params) : kfAs = (kf P).map (·.1) := by kernel_rfl
end

section
set_option linter.unusedVariables false
set_option maxRecDepth 8000
def InstD (h : Heap) (x dx : Addr) (a b c d : Value) : Prop := ∃ es n, x ≠ dx ∧ h.get? x = some (instObj 104 dx) ∧ h.get? dx = some (dictOf es n) ∧ getL "identifier" es = some (some a) ∧ getL "extendable" es = some (some b) ∧ getL "iteration_exponent" es = some (some c) ∧ getL "ciphertext" es = some (some d) ∧ getL "decrypt" es = some none
def InstOf (h : Heap) (x : Addr) (a b c d : Value) : Prop := ∃ dx, InstD h x dx a b c d
/-- an object of the class that was not there before -/
def InstNew (h0 h : Heap) (x : Addr) (a b c d : Value) : Prop := ∃ dx, InstD h x dx a b c d ∧ ∀ b' o, h0.get? b' = some o → b' ≠ x ∧ b' ≠ dx
theorem InstD.at {h h' : Heap} {x dx : Addr} {a b c d : Value} (i : InstD h x dx a b c d) (k : ∀ b' o, b' = x ∨ b' = dx → h.get? b' = some o → h'.get? b' = some o) : InstD h' x dx a b c d :=
  let ⟨es, n, h0, h1, h2, r⟩ := i; ⟨es, n, h0, k _ _ (.inl rfl) h1, k _ _ (.inr rfl) h2, r⟩
theorem InstOf.keeps {h h' : Heap} {x : Addr} {a b c d : Value} (i : InstOf h x a b c d) (k : Kp h h') : InstOf h' x a b c d :=
  let ⟨dx, i⟩ := i; ⟨dx, i.at fun _ _ _ e => k _ _ e⟩
theorem InstNew.of {h0 h : Heap} {x : Addr} {a b c d : Value} (i : InstNew h0 h x a b c d) : InstOf h x a b c d := let ⟨dx, i, _⟩ := i; ⟨dx, i⟩
theorem InstNew.back {h0 h1 h : Heap} {x : Addr} {a b c d : Value} (i : InstNew h1 h x a b c d) (k : ∀ b o, h0.get? b = some o → ∃ o', h1.get? b = some o') : InstNew h0 h x a b c d :=
  let ⟨dx, i, f⟩ := i; ⟨dx, i, fun b' o e => let ⟨o', e'⟩ := k b' o e; f b' o' e'⟩
theorem putL_le {name : Str} {hsh : Int} {key v : Value} : ∀ {es : List DictEntry} {k : Nat}, es.length ≤ k → (putL name hsh key v es).length ≤ k + 1
  | [], k, _ => by simp [putL]
  | e :: r, 0, h => by simp at h
  | e :: r, k + 1, h => by
    unfold putL
    split
    · simp at h ⊢; omega
    · have := putL_le (name := name) (hsh := hsh) (key := key) (v := v) (es := r) (k := k) (by simpa using h)
      simpa using this
theorem kp_hide {g h : Heap} {D : List Addr} (k : Kp g h) (hD : ∀ a ∈ D, g.get? a = none) : Kp g (hideAll h D) := fun b o e => hideAll_get _ (k b o e) fun hm => by rw [hD b hm] at e; cases e

section
variable {prog : Program} {w : World} {A : Around} {E : Value → Shared → Prop} {s : Shared} {env : Env} {L : Addr} {h₀ : Heap} {m mg mb : Str → Option Value} {p : Pm} {g : Heap} {σ : Sig} {K : Frag}



theorem init_code {x dx : Addr} {a b c d : Value} {R : Result → Shared → Prop} (M : Em K mg g) (k : Kp g s.heap) (hgx : g.get? x = none) (hgd : g.get? dx = none) (hne : x ≠ dx) (ho : s.heap.get? x = some (instObj 104 dx)) (hd : s.heap.get? dx = some emptyDict) (hlim : s.heap.NoLimit) (hroom : A.depth < recursionLimit)
    (h : ∀ h' k', KpB [x, dx] s.heap h' → InstD h' x dx a b c d → R (.ok (.ret .none)) { s with heap := h', toks := k' }) :
    codeAny (model prog w) A (.call (.ref 77) ⟨[.ref x, a, b, c, d], []⟩) R s := by
  obtain ⟨od, pm, doc, an, hf, hcd⟩ := M.m_i.keeps k
  refine code_clo (binds := [("self", .ref x), ("identifier", a), ("extendable", b), ("iteration_exponent", c), ("ciphertext", d)]) hroom hlim hf rfl hcd (by rfl) (by exact locs rfl) (fun h₁ F₀ => ?_)
  have F := fr_hide (D := [x, dx]) F₀
  have kf := M.kf
  have X₀ : K.In (hideAll s.heap [x, dx]) := M.k.keeps (kp_hide k (by
    intro a ha
    simp only [List.mem_cons, List.not_mem_nil, or_false] at ha
    rcases ha with rfl | rfl
    · exact hgx
    · exact hgd))
  have hLx : x ≠ s.heap.objs.size := Nat.ne_of_lt (Heap.lt_size ho)
  have hLd : dx ≠ s.heap.objs.size := Nat.ne_of_lt (Heap.lt_size hd)
  have N₁ : News (hideAll s.heap [x, dx]) s.heap.objs.size h₁ [(x, instObj 104 dx), (dx, dictOf [] 0)] := fun q hq => by
    simp only [List.mem_cons, List.not_mem_nil, or_false] at hq
    rcases hq with rfl | rfl
    · exact ⟨F₀.keep _ _ ho, hLx, hideAll_none _ (.head _)⟩
    · exact ⟨F₀.keep _ _ hd, hLd, hideAll_none _ (.tail _ (.head _))⟩
  refine wpAny_execs_cons (plainObj_wpAny_Assign_Attribute ?_)
  refine nmL F rfl (nmL F rfl ?_)
  refine set_dict F X₀ N₁ (InstAt.of_news N₁ (.head _) (.tail _ (.head _))) rfl kf.set kf.over kf.tk1 kf.hasD (by rfl) (e := rfl) (U := .tail hne (.head (by simp))) (Nat.le_trans (putL_le (Nat.le_refl 0)) (by decide)) fun h₂ F₂ N₂ => ?_
  dsimp only
  refine wpAny_execs_cons (plainObj_wpAny_Assign_Attribute ?_)
  refine nmL F₂ rfl (nmL F₂ rfl ?_)
  refine set_dict F₂ X₀ N₂ (InstAt.of_news N₂ (.head _) (.tail _ (.head _))) rfl kf.set kf.over kf.tk2 kf.hasD (by kernel_rfl) (e := rfl) (U := .tail hne (.head (by simp))) (Nat.le_trans (putL_le (putL_le (Nat.le_refl 0))) (by decide)) fun h₃ F₃ N₃ => ?_
  dsimp only
  refine wpAny_execs_cons (plainObj_wpAny_Assign_Attribute ?_)
  refine nmL F₃ rfl (nmL F₃ rfl ?_)
  refine set_dict F₃ X₀ N₃ (InstAt.of_news N₃ (.head _) (.tail _ (.head _))) rfl kf.set kf.over kf.tk3 kf.hasD (by kernel_rfl) (e := rfl) (U := .tail hne (.head (by simp))) (Nat.le_trans (putL_le (putL_le (putL_le (Nat.le_refl 0)))) (by decide)) fun h₄ F₄ N₄ => ?_
  dsimp only
  refine wpAny_execs_cons (plainObj_wpAny_Assign_Attribute ?_)
  refine nmL F₄ rfl (nmL F₄ rfl ?_)
  refine set_dict F₄ X₀ N₄ (InstAt.of_news N₄ (.head _) (.tail _ (.head _))) rfl kf.set kf.over kf.tk4 kf.hasD (by kernel_rfl) (e := rfl) (U := .tail hne (.head (by simp))) (Nat.le_trans (putL_le (putL_le (putL_le (putL_le (Nat.le_refl 0))))) (by decide)) fun h₅ F₅ N₅ => ?_
  dsimp only
  refine wpAny_execs_nil ?_
  refine h h₅ _ (kpb_of F₅) ⟨_, _, hne, (N₅ _ (.head _)).1, (N₅ _ (.tail _ (.head _))).1, ?_, ?_, ?_, ?_, ?_⟩
  · kernel_rfl
  · kernel_rfl
  · kernel_rfl
  · kernel_rfl
  · kernel_rfl
end
end

section
set_option linter.unusedVariables false
set_option maxRecDepth 8000
section
variable {prog : Program} {w : World} {A : Around} {E : Value → Shared → Prop} {s : Shared} {env : Env} {L : Addr} {h₀ : Heap} {m mg mb : Str → Option Value} {p : Pm} {g base : Heap} {σ : Sig} {K : Frag} {fr : List Env}



theorem make_call {a b c d : Value} {Q : Value → Shared → Prop} (M : Em K mg g) (k : Kp g s.heap) (hlim : s.heap.NoLimit) (hroom : A.depth + 2 < recursionLimit)
    (h : ∀ x h' k', Kp s.heap h' → InstNew s.heap h' x a b c d → Q (.ref x) { s with heap := h', toks := k' }) : wpAny (model prog w) A (call (.ref 104) [a, b, c, d]) Q E s := by
  obtain ⟨hh, gs, dr, t, os⟩ := s
  have X := M.k.keeps k
  have hsz : ∀ (h : Heap) (o : Obj), (h.push o).objs.size = h.objs.size + 1 := fun h o => by simp [Heap.push]
  refine wpAny_call (make_core (makes_of X M.kf.made) (looks_findIn X M.kf.ini) (fun self => bind_fn X self M.kf.tini) (.inl rfl) ?_)
  have K1 : Kp hh (hh.push emptyDict) := fun _ _ e => Heap.get?_push_of_some _ e
  have K2 : Kp (hh.push emptyDict) ((hh.push emptyDict).push (instObj 104 hh.objs.size)) := fun _ _ e => Heap.get?_push_of_some _ e
  have K12 : Kp hh ((hh.push emptyDict).push (instObj 104 hh.objs.size)) := fun _ _ e => K2 _ _ (K1 _ _ e)
  have gn : ∀ n, @LE.le Nat _ hh.objs.size n → g.get? n = none := fun n hn => by
    cases q : g.get? n with
    | none => rfl
    | some o =>
      have := Heap.lt_size (k _ _ q)
      exact absurd (Nat.lt_of_lt_of_le this hn) (Nat.lt_irrefl _)
  refine init_code (x := hh.objs.size + 1) (dx := hh.objs.size) M (fun _ _ e => K12 _ _ (k _ _ e)) (gn _ (Nat.le_succ _)) (gn _ (Nat.le_refl _)) (Nat.succ_ne_self _) ?_ ?_ (hlim.keeps K12) (by rw [depth_under_kw]; omega) fun h' k' KB I => ?_
  · have := Heap.get?_push_size (hh.push emptyDict) (o := instObj 104 hh.objs.size) rfl
    rwa [hsz] at this
  · exact K2 _ _ (Heap.get?_push_size hh rfl)
  · refine ⟨rfl, h _ h' k' (fun b o e => KB b o (fun hm => ?_) (K12 _ _ e)) ⟨_, I, fun b o e => ?_⟩⟩
    rotate_left
    · have hb : @LT.lt Nat _ b hh.objs.size := Heap.lt_size e
      refine ⟨fun q => ?_, fun q => ?_⟩
      · have q' : @Eq Nat b (hh.objs.size + 1) := q
        omega
      · have q' : @Eq Nat b hh.objs.size := q
        omega
    have hb : @LT.lt Nat _ b hh.objs.size := Heap.lt_size e
    simp only [List.mem_cons, List.not_mem_nil, or_false] at hm
    rcases hm with q | q
    · have q' : @Eq Nat b (hh.objs.size + 1) := q
      omega
    · have q' : @Eq Nat b hh.objs.size := q
      omega

theorem InstOf.at {h : Heap} {x : Addr} {a b c d : Value} (i : InstOf h x a b c d) : ∃ dx es n, InstAt h x (instObj 104 dx) 104 (some (dictOf es n)) ∧ getL "identifier" es = some (some a) ∧ getL "extendable" es = some (some b) ∧ getL "iteration_exponent" es = some (some c) ∧ getL "ciphertext" es = some (some d) ∧ getL "decrypt" es = some none :=
  let ⟨dx, es, n, _, h1, h2, r⟩ := i; ⟨dx, es, n, ⟨h1, rfl, rfl, h2⟩, r⟩
theorem KF.pg' (kf : KF K) (n : Str) : plainGet K 104 n = true := kf.pg

theorem get_identifier {x : Addr} {a b c d : Value} {expr : Bool} {Q : Value → Shared → Prop} (M : Em K mg g) (k : Kp g s.heap) (i : InstOf s.heap x a b c d) (hv : handedIn a = true) (h : Q a { s with toks := s.toks + 1 }) : wpAny (model prog w) A (getAttr (.ref x) "identifier" expr) Q E s :=
  let ⟨_, _, _, I, l1, l2, l3, l4, l5⟩ := i.at
  get_value (M.k.keeps k) I (plainGet_of (M.kf.pg' "identifier")).1 (findObj_own M.kf.hasD M.kf.fi1 rfl l1) hv h
theorem get_extendable {x : Addr} {a b c d : Value} {expr : Bool} {Q : Value → Shared → Prop} (M : Em K mg g) (k : Kp g s.heap) (i : InstOf s.heap x a b c d) (hv : handedIn b = true) (h : Q b { s with toks := s.toks + 1 }) : wpAny (model prog w) A (getAttr (.ref x) "extendable" expr) Q E s :=
  let ⟨_, _, _, I, l1, l2, l3, l4, l5⟩ := i.at
  get_value (M.k.keeps k) I (plainGet_of (M.kf.pg' "extendable")).1 (findObj_own M.kf.hasD M.kf.fi2 rfl l2) hv h
theorem get_exponent {x : Addr} {a b c d : Value} {expr : Bool} {Q : Value → Shared → Prop} (M : Em K mg g) (k : Kp g s.heap) (i : InstOf s.heap x a b c d) (hv : handedIn c = true) (h : Q c { s with toks := s.toks + 1 }) : wpAny (model prog w) A (getAttr (.ref x) "iteration_exponent" expr) Q E s :=
  let ⟨_, _, _, I, l1, l2, l3, l4, l5⟩ := i.at
  get_value (M.k.keeps k) I (plainGet_of (M.kf.pg' "iteration_exponent")).1 (findObj_own M.kf.hasD M.kf.fi3 rfl l3) hv h
theorem get_ciphertext {x : Addr} {a b c d : Value} {expr : Bool} {Q : Value → Shared → Prop} (M : Em K mg g) (k : Kp g s.heap) (i : InstOf s.heap x a b c d) (hv : handedIn d = true) (h : Q d { s with toks := s.toks + 1 }) : wpAny (model prog w) A (getAttr (.ref x) "ciphertext" expr) Q E s :=
  let ⟨_, _, _, I, l1, l2, l3, l4, l5⟩ := i.at
  get_value (M.k.keeps k) I (plainGet_of (M.kf.pg' "ciphertext")).1 (findObj_own M.kf.hasD M.kf.fi4 rfl l4) hv h
theorem meth_decrypt {x : Addr} {a b c d : Value} {pl : Sem Bool} {Q : Value × List Value → Shared → Prop} (M : Em K mg g) (k : Kp g s.heap) (i : InstOf s.heap x a b c d) (h : Q (.ref 101, [.ref x]) s) : wpAny (model prog w) A (getMethod (.ref x) "decrypt" pl) Q E s :=
  let ⟨_, _, _, I, l1, l2, l3, l4, l5⟩ := i.at
  method_fn (M.k.keeps k) I (plainGet_of (M.kf.pg' "decrypt")).1 (plainGet_of (M.kf.pg' "decrypt")).2 M.kf.fdec (beq_iff_eq.mp M.kf.isdec) (by show (lookIn _ (dictOf _ _)).map _ = _; rw [lookIn_dict, l5]; rfl) h
theorem meth_from {pl : Sem Bool} {Q : Value × List Value → Shared → Prop} (M : Em K mg g) (k : Kp g s.heap) (h : ∀ q h', Kp s.heap h' → h'.get? q = some (methodObj (.ref 91) (.ref 104)) → Q (.ref q, []) { s with heap := h', toks := s.toks + 1 }) : wpAny (model prog w) A (getMethod (.ref 104) "from_master_secret" pl) Q E s :=
  method_cls (M.k.keeps k) M.kf.ga (cls_bind (M.k.keeps k) M.kf.rd M.kf.fcm (wpAny_call (cm_get (s := { s with toks := s.toks + 1 }) (M.k.keeps k) M.kf.cm (handed_on rfl (h s.heap.objs.size _ (fun _ _ e => Heap.get?_push_of_some _ e) (Heap.get?_push_size _ rfl))))))
theorem callWith_Mr {q g : Addr} {self : Value} {pos : Pos} {first : List Value} {e : PySem.Expr} {rest : List PySem.Expr} {Q : Value → Shared → Prop} (hf : fnIn K g = true) (h : wpAny (model prog w) A (spliced (backTo pos (starEach (e :: rest) env))) (fun vs s₁ => MethP K q g self s₁.heap ∧ wpAny (model prog w) A (call (.ref q) (first ++ vs)) Q E s₁) E s)
    (he : starEach (e :: rest) env = (false, eval e env) :: starEach rest env := by rfl) (hplain : (backTo pos (starEach rest env)).any (·.1) = false := by rfl) :
    wpAny (model prog w) A (callWith pos (.ref q) first (backTo pos (starEach (e :: rest) env)) []) Q E s := by
  rw [he] at h ⊢
  exact callWith_of (by show ((false || (backTo pos (starEach rest env)).any (·.1)) || false) = false; rw [hplain]; rfl) (keeps_M hf) (Calls.evalArgs_plain h)
end
end

section
set_option linter.unusedVariables false
set_option maxRecDepth 8000
section
variable {prog : Program} {w : World} {A : Around} {E : Value → Shared → Prop} {s : Shared} {env : Env} {L : Addr} {h₀ : Heap} {m mg mb : Str → Option Value} {p : Pm} {g base : Heap} {σ : Sig} {K : Frag} {fr : List Env}



theorem MthIs.at {h : Heap} {f c : Addr} {n q : Str} {st : Stmt} (x : MthIs h f c n q st) : FnAt f h := let ⟨od, _, _, _, a, _⟩ := x; ⟨_, od, _, _, a⟩

theorem C.exD' {h : Heap} (x : C prog w p g σ h) : ∀ a ∈ p.D, ∃ o, h.get? a = some o := fun a ha => by
  simp only [Pm.D, List.mem_cons, List.not_mem_nil, or_false] at ha
  rcases ha with rfl | rfl | rfl
  · obtain ⟨_, ⟨_, e⟩, _⟩ := x.asked; exact ⟨_, e⟩
  · obtain ⟨_, ⟨_, _, _, e, _⟩, _⟩ := x.table; exact ⟨_, e⟩
  · obtain ⟨_, _, e⟩ := x.xt; exact ⟨_, e.2⟩
theorem from_master_call {ms pw : List UInt8} {e ident : Nat} {flag : Bool} {t1 t2 t3 t4 : Tok} {q : Addr} {Q : Value → Shared → Prop} (G : Gl mg mb g) (M : Em K mg g) (P : p.Ok g) (X : C prog w p g σ s.heap) (hq : s.heap.get? q = some (methodObj (.ref 91) (.ref 104))) (hb : AllBare s.gens) (hroom : A.depth + 130 < recursionLimit) (hun : A.units + 130 < cLine) (hh : A.handled = none)
    (hza : σ.asked.length ≤ 900) (hzt : σ.table.length ≤ 900) (hw : σ.Wf p.n) (hms : ms.length = 2 * p.n) (hpw : pw.length ≤ 900) (he : e ≤ 900) (hid : ident < 65536)
    (h : ∀ x r h' t' k gens', x = rounds p pw e (saltOf flag ident) ⟨σ, ms.take p.n, ms.drop p.n⟩ [0, 1, 2, 3] → KpB p.D s.heap h' → AllBare gens' → C prog w p g x.σ h' → InstNew s.heap h' r (.int (ident : Int) t4) (.bool flag) (.int (e : Int) t3) (.bytes (x.r ++ x.l).toArray t') → Q (.ref r) { s with heap := h', toks := k, gens := gens' }) :
    wpAny (model prog w) A (call (.ref q) [.bytes ms.toArray t1, .bytes pw.toArray t2, .int (ident : Int) t4, .bool flag, .int (e : Int) t3, .ref p.fS]) Q E s := by
  have Gs := G.keeps X.keep
  have Ms := M.keeps X.keep
  obtain ⟨od, pm, doc, an, hf, hcd⟩ := Ms.m_f
  refine wpAny_call (method_call hq ?_)
  refine code_clo (binds := [("cls", .ref 104), ("master_secret", .bytes ms.toArray t1), ("passphrase", .bytes pw.toArray t2), ("identifier", .int (ident : Int) t4), ("extendable", .bool flag), ("iteration_exponent", .int (e : Int) t3), ("pbkdf2", .ref p.fS)]) (by walk_at "dp") Gs.lim hf rfl hcd (by rfl) (by exact locs rfl) (fun h₁ F₀ => ?_)
  have F := fr_hide (D := p.D) F₀
  have X₁ := X.keeps F₀.keep
  have fr := X.frsh (Nat.le_refl _)
  have G₁ := G.keeps X₁.keep
  refine wpAny_execs_cons ?_
  walk_at "mw"
  walk_at "mw"
  refine nmG G₁ G.n_enc (callWith_F G₁.f_enc.at ?_)
  walk_at "mw"
  refine nmL F rfl ?_
  walk_at "mw"
  refine nmL F rfl ?_
  walk_at "mw"
  refine nmL F rfl ?_
  walk_at "mw"
  refine nmL F rfl ?_
  walk_at "mw"
  refine nmL F rfl ?_
  walk_at "mw"
  refine nmL F rfl (wpAny_items_nil ⟨G₁.f_enc.at, ?_⟩)
  refine encrypt_call G P X₁ hb (by show A.depth + 1 + 120 < _; walk_at "dp") (by show A.units + 3 + 120 < _; walk_at "dp") hh hza hzt hw hms hpw he hid fun x h₂ t₂ k₂ gens₂ hx K₂ hb₂ X₂ => ?_
  have F₂ := fr_kpb F K₂ fr.D
  refine stL F₂ fun h₃ F₃ S₃ => ?_
  have X₃ := X₂.local fr F₂.ns S₃
  have G₃ := G.keeps X₃.keep
  dsimp only at F₃ ⊢
  refine wpAny_execs_cons ?_
  walk_at "mw"
  walk_at "mw"
  refine nmG G₃ M.n_c (callWith_K (M.k.keeps X₃.keep) M.kf.kcls ?_)
  walk_at "mw"
  refine nmL F₃ rfl ?_
  walk_at "mw"
  refine nmL F₃ rfl ?_
  walk_at "mw"
  refine nmL F₃ rfl ?_
  walk_at "mw"
  refine nmL F₃ rfl (wpAny_items_nil ⟨M.k.keeps X₃.keep, ?_⟩)
  refine make_call M X₃.keep G₃.lim (by show A.depth + 1 + 2 < _; walk_at "dp") fun r h₄ k₄ K₄ I => ?_
  refine h x r h₄ t₂ k₄ gens₂ hx (kpb_of (F₃.keeps K₄)) hb₂ (X₃.keeps K₄) (I.back fun b o e => ?_)
  by_cases hb : b ∈ p.D
  · exact X₃.exD' b hb
  · exact ⟨o, kpb_of F₃ _ _ hb e⟩

theorem from_master_odd {ms : List UInt8} {t1 : Tok} {v1 v2 v3 v4 v5 : Value} {q : Addr} {Q : Value → Shared → Prop} (G : Gl mg mb s.heap) (M : Em K mg s.heap) (hq : s.heap.get? q = some (methodObj (.ref 91) (.ref 104))) (Kb : Below A base fr s.heap) (hroom : A.depth + 20 < recursionLimit) (hh : A.handled = none) (hodd : ms.length % 2 = 1) (hms : ms.length ≤ 1000) (hE : Flies base fr E s) :
    wpAny (model prog w) A (call (.ref q) [.bytes ms.toArray t1, v1, v2, v3, v4, v5]) Q E s := by
  obtain ⟨od, pm, doc, an, hf, hcd⟩ := M.m_f
  refine wpAny_call (method_call hq ?_)
  refine code_clo (binds := [("cls", .ref 104), ("master_secret", .bytes ms.toArray t1), ("passphrase", v1), ("identifier", v2), ("extendable", v3), ("iteration_exponent", v4), ("pbkdf2", v5)]) (by walk_at "dp") G.lim hf rfl hcd (by rfl) (by exact locs rfl) (fun h₁ F => ?_)
  have K' := Kb.push (a := 91) (cd := .ref 90) (name := "EncryptedMasterSecret.from_master_secret") (scope := scoOf (stM 2)) F (by rfl)
  have G₁ := G.fr F
  refine wpAny_execs_cons ?_
  walk_at "mw"
  walk_at "mw"
  refine nmG G₁ G.n_enc (callWith_F G₁.f_enc.at ?_)
  walk_at "mw"
  refine nmL F rfl ?_
  walk_at "mw"
  refine nmL F rfl ?_
  walk_at "mw"
  refine nmL F rfl ?_
  walk_at "mw"
  refine nmL F rfl ?_
  walk_at "mw"
  refine nmL F rfl ?_
  walk_at "mw"
  refine nmL F rfl (wpAny_items_nil ⟨G₁.f_enc.at, ?_⟩)
  refine encrypt_odd G₁ K' (by show A.depth + 1 + 10 < _; walk_at "dp") hh hodd hms fun e t h' k fl up => ?_
  refine wpAny_leaves_onW K'.stack rfl fl fun h'' fl' up' => ?_
  exact hE e t h'' _ fl' ((Heap.UpToSlots.of_keeps F.keep).trans (up.trans up'))

theorem dec_m_call {ms pw : List UInt8} {e ident : Nat} {flag : Bool} {t1 t2 t3 t4 : Tok} {r : Addr} {Q : Value → Shared → Prop} (G : Gl mg mb g) (M : Em K mg g) (P : p.Ok g) (X : C prog w p g σ s.heap) (I : InstOf s.heap r (.int (ident : Int) t4) (.bool flag) (.int (e : Int) t3) (.bytes ms.toArray t1)) (hb : AllBare s.gens) (hroom : A.depth + 130 < recursionLimit) (hun : A.units + 130 < cLine) (hh : A.handled = none)
    (hza : σ.asked.length ≤ 900) (hzt : σ.table.length ≤ 900) (hw : σ.Wf p.n) (hms : ms.length = 2 * p.n) (hpw : pw.length ≤ 900) (he : e ≤ 900) (hid : ident < 65536)
    (h : ∀ x h' t' k gens', x = rounds p pw e (saltOf flag ident) ⟨σ, ms.take p.n, ms.drop p.n⟩ [3, 2, 1, 0] → KpB p.D s.heap h' → AllBare gens' → C prog w p g x.σ h' → Q (.bytes (x.r ++ x.l).toArray t') { s with heap := h', toks := k, gens := gens' }) :
    wpAny (model prog w) A (call (.ref 101) [.ref r, .bytes pw.toArray t2, .ref p.fS]) Q E s := by
  have Gs := G.keeps X.keep
  have Ms := M.keeps X.keep
  obtain ⟨od, pm, doc, an, hf, hcd⟩ := Ms.m_d
  refine wpAny_call (code_clo (binds := [("self", .ref r), ("passphrase", .bytes pw.toArray t2), ("pbkdf2", .ref p.fS)]) (by walk_at "dp") Gs.lim hf rfl hcd (by rfl) (by exact locs rfl) (fun h₁ F₀ => ?_))
  have F := fr_hide (D := p.D) F₀
  have X₁ := X.keeps F₀.keep
  have G₁ := G.keeps X₁.keep
  have I₁ := I.keeps F₀.keep
  refine wpAny_execs_cons ?_
  walk_at "mw"
  walk_at "mw"
  refine nmG G₁ G.n_dc (callWith_F G₁.f_dec.at ?_)
  walk_at "mw"
  refine Attribute_Name_ (nmL F rfl (get_ciphertext M X₁.keep I₁ rfl ?_))
  walk_at "mw"
  refine nmL F rfl ?_
  walk_at "mw"
  refine Attribute_Name_ (nmL F rfl (get_exponent M X₁.keep I₁ rfl ?_))
  walk_at "mw"
  refine Attribute_Name_ (nmL F rfl (get_identifier M X₁.keep I₁ rfl ?_))
  walk_at "mw"
  refine Attribute_Name_ (nmL F rfl (get_extendable M X₁.keep I₁ rfl ?_))
  walk_at "mw"
  refine nmL F rfl (wpAny_items_nil ⟨G₁.f_dec.at, ?_⟩)
  refine decrypt_call G P X₁ hb (by show A.depth + 1 + 120 < _; walk_at "dp") (by show A.units + 3 + 120 < _; walk_at "dp") hh hza hzt hw hms hpw he hid fun x h₂ t₂ k₂ gens₂ hx K₂ hb₂ X₂ => ?_
  exact h x h₂ t₂ k₂ gens₂ hx (KpB.trans (KpB.ofKp F₀.keep) K₂) hb₂ X₂

theorem dec_m_odd {ms : List UInt8} {t1 : Tok} {a b c v1 v2 : Value} {r : Addr} {Q : Value → Shared → Prop} (G : Gl mg mb s.heap) (M : Em K mg s.heap) (I : InstOf s.heap r a b c (.bytes ms.toArray t1)) (ha : handedIn a = true) (hb : handedIn b = true) (hc : handedIn c = true) (Kb : Below A base fr s.heap) (hroom : A.depth + 20 < recursionLimit) (hh : A.handled = none) (hodd : ms.length % 2 = 1) (hms : ms.length ≤ 1000) (hE : Flies base fr E s) :
    wpAny (model prog w) A (call (.ref 101) [.ref r, v1, v2]) Q E s := by
  obtain ⟨od, pm, doc, an, hf, hcd⟩ := M.m_d
  refine wpAny_call (code_clo (binds := [("self", .ref r), ("passphrase", v1), ("pbkdf2", v2)]) (by walk_at "dp") G.lim hf rfl hcd (by rfl) (by exact locs rfl) (fun h₁ F => ?_))
  have K' := Kb.push (a := 101) (cd := .ref 100) (name := "EncryptedMasterSecret.decrypt") (scope := scoOf (stM 3)) F (by rfl)
  have G₁ := G.fr F
  have I₁ := I.keeps F.keep
  refine wpAny_execs_cons ?_
  walk_at "mw"
  walk_at "mw"
  refine nmG G₁ G.n_dc (callWith_F G₁.f_dec.at ?_)
  walk_at "mw"
  refine Attribute_Name_ (nmL F rfl (get_ciphertext M F.keep I₁ rfl ?_))
  walk_at "mw"
  refine nmL F rfl ?_
  walk_at "mw"
  refine Attribute_Name_ (nmL F rfl (get_exponent M F.keep I₁ hc ?_))
  walk_at "mw"
  refine Attribute_Name_ (nmL F rfl (get_identifier M F.keep I₁ ha ?_))
  walk_at "mw"
  refine Attribute_Name_ (nmL F rfl (get_extendable M F.keep I₁ hb ?_))
  walk_at "mw"
  refine nmL F rfl (wpAny_items_nil ⟨G₁.f_dec.at, ?_⟩)
  refine decrypt_odd G₁ K' (by show A.depth + 1 + 10 < _; walk_at "dp") hh hodd hms fun e t h' k fl up => ?_
  refine wpAny_leaves_onW K'.stack rfl fl fun h'' fl' up' => ?_
  exact hE e t h'' _ fl' ((Heap.UpToSlots.of_keeps F.keep).trans (up.trans up'))
end
end

section
set_option linter.unusedVariables false
set_option maxRecDepth 8000
section
variable {prog : Program} {w : World} {A : Around} {E : Value → Shared → Prop} {s : Shared} {env : Env} {L : Addr} {h₀ : Heap} {m mg mb : Str → Option Value} {p : Pm} {g base : Heap} {σ : Sig} {K : Frag} {fr : List Env}

/-- not a tuple -/
def NoTup (o : Obj) : Prop := o.cls ≠ .type "tuple" ∨ ∀ vs n, o.data ≠ .seq vs n

/-- a list of an element for each number below n; what holds of an element may speak of the heap -/
theorem ListComp_rangeH {elt iter : PySem.Expr} {x : Str} {px : Pos} {scope : Scope} {cl : List (Str × Addr)} {pos : Pos} {Q : Value → Shared → Prop} {n : Nat} (R : Heap → Nat → Value → Prop)
    (hRs : ∀ h h' a o i y, R h i y → h.get? a = some o → NoTup o → Heap.ExtBut a h h' → R h' i y)
    (hRk : ∀ h h' i y, R h i y → Kp h h' → R h' i y)
    (hh : A.handled = none) (hn : n ≤ 1000) (hclos : closureFor scope env = pure cl)
    (hit : ∀ Q', (∀ r h' t u v k, IsRange h' r 0 n 1 t u v → Kp s.heap h' → Q' (.ref r) { s with heap := h', toks := k }) → wpAny (model prog w) A (eval iter env) Q' E s)
    (helt : ∀ C (i : Nat) t (s₃ : Shared) m₃ E', i < n → s₃.heap.Ns C m₃ → m₃ x = some (.int (i : Int) t) → Kp s.heap s₃.heap →
      wpAny (model prog w) A (eval elt (compEnvC scope cl C env)) (fun y s₄ => R s₄.heap i y ∧ Keeps s₃ s₄) E' s₃)
    (h : ∀ D h' tk (ys : List Value), s.heap.get? D = none → h'.PlainList D ys.toArray → ys.length = n → (∀ (i : Nat) v, ys[i]? = some v → R h' i v) → Kp s.heap h' → Q (.ref D) { s with heap := h', toks := tk })
    (hcell : ∀ y ∈ scope.names, y.2 ≠ .cell := by decide) (hkind : scope.kind = .function := by rfl)
    (hnames : ∀ y ∈ scope.names, y.2 = .local → scope.names.lookup y.1 = some .local := by decide) (hx : scope.names.lookup x = some .local := by rfl)
    (hs : ∀ x, foldedSetIterable iter env x = pure x := by intro _; rfl) :
    wpAny (model prog w) A (eval (.ListComp elt [⟨.Name x px, iter, [], 0⟩] scope pos) env) Q E s := by
  rw [eval_ListComp]
  refine wpAny_comprehension_free (use := none) rfl hs hclos hkind hnames (hit _ fun r h₁ t u v k hr hk => ?_)
  refine wpAny_pyIter_range hr (small_one (by walk_at "dp") (by walk_at "dp") (by walk_at "dp") (by walk_at "dp")) ?_
  have hsz : Builtin.Range.rangeSize 0 (n : Int) 1 = (n : Int) := by rw [rangeSize_one]; split <;> omega
  rw [hsz]
  dsimp only
  generalize hH2 : h₁.push { cls := .type "range_iterator", data := .fields #[rawInt 0, rawInt (n : Int), rawInt 1] } = h₂
  have hs2 : @Eq Nat h₂.objs.size (h₁.objs.size + 1) := by rw [← hH2, Heap.size_push]
  have K₂ : Kp h₁ h₂ := fun b o e => hH2 ▸ Heap.get?_push_of_some _ e
  have it₂ : IsRangeIter h₂ h₁.objs.size (0 + ((0 : Nat) : Int) * 1) ((n : Int) - ((0 : Nat) : Int)) 1 := by
    show Heap.get? _ _ = _
    rw [← hH2, Heap.get?_push_size _ rfl]
    simp [rawInt]
  refine wpAny_newObj_type (wpAny_newFunctionEnv hcell (by intro y hy; simp at hy) (fun h₃ hns₃ hsb₃ => ?_) hkind)
  dsimp only at hns₃ hsb₃ ⊢
  generalize hHL : h₂.push { cls := .type "list", dict := none, data := .seq ([] : List Value).toArray } = hL at hns₃ hsb₃ ⊢
  have hsL : @Eq Nat hL.objs.size (h₁.objs.size + 2) := by
    have : @Eq Nat hL.objs.size (h₂.objs.size + 1) := by rw [← hHL, Heap.size_push]
    omega
  have lt1 : ∀ b o, s.heap.get? b = some o → @LT.lt Nat _ b h₁.objs.size := fun b o e => Heap.lt_size (hk b o e)
  have nIC : ¬ @Eq Nat h₁.objs.size hL.objs.size := by omega
  have nDC : ¬ @Eq Nat h₂.objs.size hL.objs.size := by omega
  have nID : ¬ @Eq Nat h₁.objs.size h₂.objs.size := by omega
  have up : ∀ b o, @LT.lt Nat _ b hL.objs.size → hL.get? b = some o → h₃.get? b = some o := fun b o hb e => hsb₃.extBut b o (Nat.ne_of_lt hb) (Heap.get?_push_of_some _ e)
  have KL : Kp h₂ hL := fun b o e => hHL ▸ Heap.get?_push_of_some _ e
  have it₃ : IsRangeIter h₃ h₁.objs.size (0 + ((0 : Nat) : Int) * 1) ((n : Int) - ((0 : Nat) : Int)) 1 := up _ _ (by walk_at "dp") (KL _ _ it₂)
  have pl₃ : h₃.PlainList h₂.objs.size ([] : List Value).toArray := ⟨_, up _ _ (by walk_at "dp") (hHL ▸ Heap.get?_push_size _ rfl)⟩
  have K₃ : Kp s.heap h₃ := fun b o e => up _ _ (by have := lt1 b o e; omega) (KL _ _ (K₂ _ _ (hk _ _ e)))
  have fresh : ∀ a : Nat, @LE.le Nat _ h₁.objs.size a → s.heap.get? a = none := fun a ha => by
    cases e : s.heap.get? a with
    | none => rfl
    | some o =>
      have := lt1 a o e
      exact absurd (Nat.lt_of_lt_of_le this ha) (Nat.lt_irrefl _)
  have loop : ∀ s₃ : Shared, s₃ = { s with heap := h₃, toks := k + ([] : List (Str × Value)).length } →
      codeAny (model prog w) A (.compLoop (.ListComp elt [⟨.Name x px, iter, [], 0⟩] scope pos) 0 (.ref h₁.objs.size) (.ref h₂.objs.size) (compEnvC scope cl hL.objs.size env))
        (compPost (model prog w) A E none Q (.ref h₂.objs.size) hL.objs.size) s₃ := by
    rintro s₃ rfl
    refine codeAny_compLoop_tests (fun k' s' => ∃ i h' tk m', ∃ ys : List Value, s' = { s with heap := h', toks := tk } ∧ i ≤ n ∧ k' = n + 1 - i ∧ IsRangeIter h' h₁.objs.size (0 + (i : Int) * 1) ((n : Int) - (i : Int)) 1 ∧ h'.PlainList h₂.objs.size ys.toArray ∧ ys.length = i ∧
      (∀ (j : Nat) v, ys[j]? = some v → R h' j v) ∧ h'.Ns hL.objs.size m' ∧ Kp s.heap h') ?_ (n + 1)
      ⟨0, h₃, _, _, [], rfl, Nat.zero_le _, rfl, it₃, pl₃, rfl, by simp, hns₃, K₃⟩
    rintro k' s' ⟨i, h', tk, m', ys, rfl, hi, rfl, it', pl', hlen, hR, hns', hk'⟩
    by_cases hlt : i < n
    · refine wpAny_pyNext_range_item it' (by walk_at "dp") fun h₄ it₄ S₄ => ?_
      have ns₄ : h₄.Ns hL.objs.size m' := hns'.extBut S₄.extBut (fun q => nIC q.symm)
      have pl₄ : h₄.PlainList h₂.objs.size ys.toArray := let ⟨c, e⟩ := pl'; ⟨c, S₄.extBut _ _ (fun q => nID q.symm) e⟩
      have R₄ : ∀ (j : Nat) v, ys[j]? = some v → R h₄ j v := fun j v e => hRs _ _ _ _ _ _ (hR j v e) it' (.inl (by simp)) S₄.extBut
      have k₄ : Kp s.heap h₄ := fun b o e => S₄.extBut b o (Nat.ne_of_lt (lt1 b o e)) (hk' b o e)
      refine wpAny_assign_Name (wpAny_storeName_local (lookup_relabel_local hx) ns₄ (fun h₅ ns₅ S₅ => ?_) (by simp [compEnvC, relabel, hkind]))
      have S₅' : Heap.SameBut hL.objs.size h₄ h₅ := S₅
      obtain ⟨oC, esC, epC, hoC, hdC, _⟩ := id ns₄
      have it₅ := S₅'.extBut _ _ nIC it₄
      have pl₅ : h₅.PlainList h₂.objs.size ys.toArray := let ⟨c, e⟩ := pl₄; ⟨c, S₅'.extBut _ _ nDC e⟩
      have R₅ : ∀ (j : Nat) v, ys[j]? = some v → R h₅ j v := fun j v e => hRs _ _ _ _ _ _ (R₄ j v e) hoC (.inr fun _ _ q => by rw [hdC] at q; cases q) S₅'.extBut
      have k₅ : Kp s.heap h₅ := fun b o e => S₅'.extBut b o (Nat.ne_of_lt (by have := lt1 b o e; omega)) (k₄ b o e)
      refine wpAny_pure ?_
      rw [if_pos rfl]
      have ei : (0 + (i : Int) * 1) = (i : Int) := by omega
      refine wpAny_mono (helt hL.objs.size i tk _ _ (notedBy (model prog w) A (compEnvC scope cl hL.objs.size env) fun e s' => compPost (model prog w) A E none Q (.ref h₂.objs.size) hL.objs.size (.error e) s') hlt ns₅ (by simp [ei]) k₅) (fun y s₆ hy => ?_) fun _ _ e => e
      obtain ⟨hRy, h₆, tk₆, rfl, k₆⟩ := hy
      have pl₆ : h₆.PlainList h₂.objs.size ys.toArray := let ⟨c, e⟩ := pl₅; ⟨c, k₆ _ _ e⟩
      obtain ⟨cD, eD⟩ := id pl₆
      refine wpAny_list_append_plain pl₆ (fun h₇ pl₇ S₇ => ?_) (by rw [List.size_toArray, sizeLine_eq]; omega)
      have rest : ∀ (j : Nat) v, R h₆ j v → R h₇ j v := fun j v r => hRs _ _ _ _ _ _ r eD (.inl (by simp)) S₇.extBut
      refine ⟨n + 1 - (i + 1), by omega, i + 1, h₇, _, _, ys ++ [y], rfl, hlt, rfl, ?_, ?_, by simp [hlen], ?_, (ns₅.keeps k₆).extBut S₇.extBut (fun q => nDC q.symm), ?_⟩
      · have e1 : (0 + ((i + 1 : Nat) : Int) * 1) = 0 + (i : Int) * 1 + 1 := by omega
        have e2 : ((n : Int) - ((i + 1 : Nat) : Int)) = (n : Int) - (i : Int) - 1 := by omega
        rw [e1, e2]
        exact S₇.extBut _ _ nID (k₆ _ _ it₅)
      · simpa using pl₇
      · intro j v e
        by_cases hj : j < ys.length
        · rw [List.getElem?_append_left hj] at e
          exact rest _ _ (hRk _ _ _ _ (R₅ j v e) k₆)
        · have hj' : j = ys.length := by
            have := (List.getElem?_eq_some_iff.mp e).1
            simp at this; omega
          subst hj'
          simp at e
          subst e
          rw [hlen]
          exact rest _ _ hRy
      · exact fun b o e => S₇.extBut b o (Nat.ne_of_lt (by have := lt1 b o e; omega)) (k₆ b o (k₅ b o e))
    · have hin : i = n := by omega
      subst hin
      refine wpAny_pyNext_range_end hh it' (by walk_at "dp") fun h₄ S₄ => ?_
      have ns₄ : h₄.Ns hL.objs.size m' := hns'.extBut S₄ (fun q => nIC q.symm)
      have pl₄ : h₄.PlainList h₂.objs.size ys.toArray := let ⟨c, e⟩ := pl'; ⟨c, S₄ _ _ (fun q => nID q.symm) e⟩
      have R₄ : ∀ (j : Nat) v, ys[j]? = some v → R h₄ j v := fun j v e => hRs _ _ _ _ _ _ (hR j v e) it' (.inl (by simp)) S₄
      have k₄ : Kp s.heap h₄ := fun b o e => S₄ b o (Nat.ne_of_lt (lt1 b o e)) (hk' b o e)
      obtain ⟨oC, esC, epC, hoC, hdC, _⟩ := id ns₄
      refine ⟨m', ns₄, fun h₅ S₅ => ?_⟩
      refine h h₂.objs.size h₅ tk ys (fresh _ (by walk_at "dp")) (let ⟨c, e⟩ := pl₄; ⟨c, S₅.extBut _ _ nDC e⟩) hlen (fun j v e => hRs _ _ _ _ _ _ (R₄ j v e) hoC (.inr fun _ _ q => by rw [hdC] at q; cases q) S₅.extBut) fun b o e => S₅.extBut b o (Nat.ne_of_lt (by have := lt1 b o e; omega)) (k₄ b o e)
  exact codeAny_compStart_list (loop _ rfl) (wpAny_pyIter_ri it₃ (loop _ rfl))
end
end

section
set_option linter.unusedVariables false
set_option maxRecDepth 8000
theorem cellsFrom_app : ∀ (names : List (Str × NameKind)) (n : Nat) (acc : List (Str × Addr)), cellsFrom n names acc = cellsFrom n names [] ++ acc
  | [], n, acc => rfl
  | (name, kind) :: r, n, acc => by
    unfold cellsFrom
    split
    · rw [cellsFrom_app r (n + 1) ((name, n) :: acc), cellsFrom_app r (n + 1) [(name, n)], List.append_assoc]; rfl
    · exact cellsFrom_app r n acc

section
variable {M : Model} {A : Around} {E : Value → Shared → Prop} {s : Shared} {env : Env} {h₀ : Heap} {m cm : Str → Option Value} {own cl : List (Str × Addr)}

theorem look_own {x : Str} {c : Addr} (h : own.lookup x = some c) : (own ++ cl).lookup x = some c := by
  rw [List.lookup_append, h]; rfl

/-- a store into a cell of the frame's own -/
theorem stO {x : Str} {c : Addr} {v : Value} {Q : Unit → Shared → Prop} (F : Fr h₀ env.locals s.heap m) (X : Cl env.locals own s.heap cm) (hcs : env.cells = own ++ cl) (hc : own.lookup x = some c)
    (h : ∀ h', Fr h₀ env.locals h' m → Cl env.locals own h' (fun y => if y = x then some v else cm y) → Heap.SameBut c s.heap h' → Q () { s with heap := h' })
    (hk : env.scope.kind = .function := by rfl) (hl : env.kindOf x = some .cell := by rfl) : wpAny M A (storeName env x v) Q E s := by
  have hLc : env.locals < c := X.above x c (mem_of_lookup hc)
  refine wpAny_storeName_cell hk hl (by rw [hcs]; exact look_own hc) (X.cell x c hc) fun h' hv hs => h h' ⟨F.ns.sameBut hs (Nat.ne_of_lt hLc), fun b o e => (hs.2 b (Nat.ne_of_lt (Nat.lt_trans (Nat.lt_of_lt_of_le (Heap.lt_size e) F.above) hLc))).trans (F.keep b o e), F.above⟩
    ⟨fun n c' e => ?_, X.apart, X.above⟩ hs
  by_cases hn : n = x
  · subst hn; rw [hc] at e; cases e; simpa using hv
  · have hcc : c' ≠ c := fun q => hn (name_of_addr X.apart (mem_of_lookup e) (q ▸ mem_of_lookup hc))
    simpa [hn] using (X.cell n c' e).sameBut hs hcc

theorem bindParamsX (f : Str × Value → PUnit → Sem (ForInStep PUnit)) (hf : ∀ n v u, f (n, v) u = (do storeName env n v; pure (.yield ⟨⟩))) (hk : env.scope.kind = .function) (hcs : env.cells = own ++ cl) :
    ∀ (binds : List (Str × Value)) (m cm : Str → Option Value) (s : Shared) (Q : PUnit → Shared → Prop), Fr h₀ env.locals s.heap m → Cl env.locals own s.heap cm →
      (∀ x ∈ binds, env.kindOf x.1 = some .local ∨ (env.kindOf x.1 = some .cell ∧ (own.lookup x.1).isSome = true)) →
      (∀ h' tk, Fr h₀ env.locals h' (bindL env.kindOf binds m) → Cl env.locals own h' (bindC env.kindOf binds cm) → Q ⟨⟩ { s with heap := h', toks := tk }) → wpAny M A (forIn binds ⟨⟩ f) Q E s
  | [], m, cm, s, Q, F, X, _, h => by rw [List.forIn_nil]; exact wpAny_pure (h _ _ F X)
  | (n, v) :: r, m, cm, s, Q, F, X, hkind, h => by
    rw [List.forIn_cons, hf]
    have hr : ∀ y ∈ r, env.kindOf y.1 = some .local ∨ (env.kindOf y.1 = some .cell ∧ (own.lookup y.1).isSome = true) := fun y hy => hkind y (List.mem_cons_of_mem _ hy)
    rcases hkind (n, v) List.mem_cons_self with hl | ⟨hl, hc⟩
    · refine wpAny_bind (wpAny_bind (wpAny_storeName_local hl F.ns (fun h₁ hn₁ S₁ => wpAny_pure (bindParamsX f hf hk hcs r _ _ _ Q (F.set hn₁ S₁) (X.sameBut S₁ (Nat.le_refl _)) hr fun h' tk F' X' => ?_)) (by rw [hk]; rfl)))
      unfold bindL bindC at h; rw [if_pos hl, if_pos hl] at h
      exact h h' tk F' X'
    · obtain ⟨c, hc⟩ := Option.isSome_iff_exists.mp hc
      have hnl : ¬ env.kindOf n = some .local := by rw [hl]; decide
      refine wpAny_bind (wpAny_bind (stO F X hcs hc (fun h₁ F₁ X₁ S₁ => wpAny_pure (bindParamsX f hf hk hcs r _ _ _ Q F₁ X₁ hr fun h' tk F' X' => ?_)) hk hl))
      unfold bindL bindC at h; rw [if_neg hnl, if_neg hnl] at h
      exact h h' tk F' X'
end

section
variable {prog : Program} {w : World} {A : Around} {E : Value → Shared → Prop} {s : Shared} {env : Env} {L : Addr} {h₀ : Heap} {m mg mb : Str → Option Value} {p : Pm} {g : Heap} {σ : Sig}

/-- a call of a def made in a def, with cells of its own -/
theorem code_cloC {R : Result → Shared → Prop} {f : Addr} {fo : Obj} {name qual : Str} {params : Arguments} {body : List Stmt} {scope : Scope} {cl : List (Str × Addr)} {doc pm cdv ct : Value} {an : Option Addr} {args : List Value} {binds : List (Str × Value)}
    (hroom : A.depth < recursionLimit) (hlim : s.heap.NoLimit) (ho : s.heap.get? f = some fo) (hd : fo.data = .func (fnX name qual params body scope cl .none .none doc pm an cdv ct)) (hcd : s.heap.CodeRec cdv qual)
    (hbind : bindArgs (fnX name qual params body scope cl .none .none doc pm an cdv ct) ⟨args, []⟩ = pure binds)
    (hkind : ∀ n, ∀ x ∈ binds, scope.names.lookup x.1 = some .local ∨ (scope.names.lookup x.1 = some .cell ∧ ((cellsFrom n scope.names []).lookup x.1).isSome = true))
    (h : ∀ h₁ tk, Fr s.heap s.heap.objs.size h₁ (bindL (fun x => scope.names.lookup x) binds fun _ => none) → Cl s.heap.objs.size (cellsFrom (s.heap.objs.size + 1) scope.names []) h₁ (bindC (fun x => scope.names.lookup x) binds fun _ => none) →
      wpAny (model prog w) (A.deeper (envX qual scope s.heap.objs.size f cdv (cellsFrom (s.heap.objs.size + 1) scope.names [] ++ cl))) (execs body (envX qual scope s.heap.objs.size f cdv (cellsFrom (s.heap.objs.size + 1) scope.names [] ++ cl)))
        (fun fl s' => R (.ok (.ret (match fl with | .ret v => v | _ => .none))) s')
        (fun e s' => wpAny (model prog w) (A.deeper (envX qual scope s.heap.objs.size f cdv (cellsFrom (s.heap.objs.size + 1) scope.names [] ++ cl))) (leaving (envX qual scope s.heap.objs.size f cdv (cellsFrom (s.heap.objs.size + 1) scope.names [] ++ cl)) e) (fun _ s'' => R (.error e) s'') (fun e' s'' => R (.error e') s'') s')
        { s with heap := h₁, toks := tk })
    (hco : scope.isCoroutine = false := by rfl) (hgen : scope.isGenerator = false := by rfl) (hk : scope.kind = .function := by rfl) : codeAny (model prog w) A (.call (.ref f) ⟨args, []⟩) R s := by
  refine codeAny_call_function hroom ho hd hco hgen rfl hcd ?_
  rw [hbind]
  refine wpAny_pure ?_
  simp only [newFunctionEnv, Option.isSome_none, Bool.false_eq_true, if_false]
  refine wpAny_bind (wpAny_alloc ?_)
  refine wpAny_bind (wpAny_layCells _ (fun name kind cells => by cases hkc : kind == NameKind.cell <;> simp [hkc]) _ _ _ _ ?_)
  have ok := cellsFrom_ok scope.names (s.heap.push { cls := .type "frame", data := .dict #[] }) (s.heap.objs.size + 1) [] ⟨fun _ _ hm => (nomatch hm), List.Pairwise.nil⟩ (by rw [Heap.size_push]; exact Nat.le_refl _)
  rw [Heap.size_push] at ok
  rw [show ({ s with heap := s.heap.push { cls := .type "frame", data := .dict #[] } } : Shared).heap.objs.size = s.heap.objs.size + 1 from Heap.size_push ..]
  rw [cellsFrom_app]
  dsimp only
  have F₀ : Fr s.heap s.heap.objs.size (pushCells (s.heap.push { cls := .type "frame", data := .dict #[] }) scope.names) (fun _ => none) :=
    ⟨(Heap.Ns.new s.heap (.type "frame")).keeps (pushCells_keeps _ _), fun b o e => pushCells_keeps _ _ b o (Heap.get?_push_of_some _ e), Nat.le_refl _⟩
  have X₀ : Cl s.heap.objs.size (cellsFrom (s.heap.objs.size + 1) scope.names []) (pushCells (s.heap.push { cls := .type "frame", data := .dict #[] }) scope.names) (fun _ => none) :=
    ⟨fun n c hc => (ok.empty n c (mem_of_lookup hc)).1, ok.apart, fun n c hm => (ok.empty n c hm).2⟩
  refine wpAny_bind (bindParamsX (env := envX qual scope s.heap.objs.size f cdv (cellsFrom (s.heap.objs.size + 1) scope.names [] ++ cl)) (own := cellsFrom (s.heap.objs.size + 1) scope.names []) (cl := cl)
    _ (fun _ _ _ => rfl) hk rfl binds (fun _ => none) (fun _ => none) _ _ F₀ X₀ (hkind _) fun h₁ tk F₁ X₁ => wpAny_pure ⟨hlim.keeps F₁.keep, codeAny_func ?_⟩)
  exact h h₁ tk F₁ X₁
end
end

section
set_option linter.unusedVariables false
set_option maxRecDepth 8000
def clQ (cEx cFl cHa : Addr) : List (Str × Addr) := [("half", cHa), ("flag", cFl), ("exponent", cEx)]
def QFn (h : Heap) (f c : Addr) (cl : List (Str × Addr)) : Prop := ∃ od doc pm ct, h.get? f = some { cls := .type "function", dict := od, data := .func (fnX "questions" "law.<locals>.questions" (parOf stQ) (bodOf stQ) (scoOf stQ) cl .none .none doc pm none (.ref c) ct) } ∧ h.CodeRec (.ref c) "law.<locals>.questions"
theorem QFn.keeps {h h' : Heap} {f c : Addr} {cl : List (Str × Addr)} (x : QFn h f c cl) (k : Kp h h') : QFn h' f c cl := let ⟨od, doc, pm, ct, a, b⟩ := x; ⟨od, doc, pm, ct, k _ _ a, b.keeps k⟩
theorem QFn.at {h : Heap} {f c : Addr} {cl : List (Str × Addr)} (x : QFn h f c cl) : FnAt f h := let ⟨od, _, _, _, a, _⟩ := x; ⟨_, od, _, _, a⟩

/-- a list of octets -/
def OctsAre (vs : List Value) (bs : List (List UInt8)) : Prop := All2 (fun v b => ∃ t, v = .bytes b.toArray t) vs bs

section
variable {prog : Program} {w : World} {A : Around} {E : Value → Shared → Prop} {s : Shared} {env : Env} {L : Addr} {h₀ : Heap} {m mg mb : Str → Option Value} {p : Pm} {g : Heap} {σ : Sig}



theorem tq_kp {h h' : Heap} {v : Value} {q : QK} (t : IsTq prog w h v q) (k : Kp h h') : IsTq prog w h' v q :=
  let ⟨a, e, o, it, n, ho, r⟩ := t; ⟨a, e, o, it, n, k _ _ ho, r⟩
theorem tq_st {h h' : Heap} {v : Value} {q : QK} {a : Addr} {o : Obj} (t : IsTq prog w h v q) (ha : h.get? a = some o) (hn : NoTup o) (S : Heap.ExtBut a h h') : IsTq prog w h' v q :=
  let ⟨b, e, o', it, n, ho, hc, hd, r⟩ := t; ⟨b, e, o', it, n, S _ _ (fun q => by
    rw [q, ha] at ho; cases ho
    rcases hn with hn | hn
    · exact hn hc
    · exact hn _ _ hd) ho, hc, hd, r⟩

theorem questions_call {fQ cQ cEx cFl cHa rl : Addr} {pw : List UInt8} {rs : List (List UInt8)} {vs : List Value} {e ident n : Nat} {flag : Bool} {t1 t2 te th : Tok} {Q : Value → Shared → Prop} (G : Gl mg mb s.heap) (hf : QFn s.heap fQ cQ (clQ cEx cFl cHa))
    (hEx : s.heap.IsCell cEx (some (.int (e : Int) te))) (hFl : s.heap.IsCell cFl (some (.bool flag))) (hHa : s.heap.IsCell cHa (some (.int (n : Int) th))) (hrl : s.heap.IsList rl vs.toArray) (hrs : OctsAre vs rs) (hl4 : rs.length = 4) (hrn : ∀ r ∈ rs, r.length = n)
    (hroom : A.depth + 10 < recursionLimit) (hh : A.handled = none) (hid : ident < 65536) (he : e ≤ 900) (hpw : pw.length ≤ 900) (hn : n ≤ 16)
    (h : ∀ D h' k ys, s.heap.get? D = none → h'.PlainList D ys.toArray → All2 (IsTq prog w h') ys ((List.range 4).map fun i => rq i pw e (saltOf flag ident) (rs.getD i [])) → Kp s.heap h' → Q (.ref D) { s with heap := h', toks := k }) :
    wpAny (model prog w) A (call (.ref fQ) [.bytes pw.toArray t1, .int (ident : Int) t2, .ref rl]) Q E s := by
  obtain ⟨od, doc, pm, ct, ho, hcd⟩ := hf
  have hsal : (saltOf flag ident).length ≤ 8 := by
    unfold saltOf; split
    · simp
    · simp [enc_length]
  refine wpAny_call (code_cloC (binds := [("passphrase", .bytes pw.toArray t1), ("name", .int (ident : Int) t2), ("rights", .ref rl)]) (by walk_at "dp") G.lim ho rfl hcd (by rfl) (fun n => by exact kinds_of (by kinds_ok)) (fun h₁ tk F X => ?_))
  have G₁ := G.fr F
  have hcp : h₁.IsCell (s.heap.objs.size + 1) (some (.bytes pw.toArray t1)) := X.cell "passphrase" _ rfl
  have hcr : h₁.IsCell (s.heap.objs.size + 1 + 1) (some (.ref rl)) := X.cell "rights" _ rfl
  refine wpAny_mono (Q := fun fl s' => Q (match fl with | .ret v => v | _ => .none) s') (E := fun _ _ => False) ?_ (fun _ _ x => x) fun _ _ x => x.elim
  refine wpAny_execs_cons ?_
  walk_at "mw"
  refine wpAny_mono (Q := fun v s' => ∃ t k, v = .bytes (saltOf flag ident).toArray t ∧ s' = { s with heap := h₁, toks := k }) (E := fun _ _ => False) ?_ ?_ fun _ _ e => e
  · walk_at "mw"
    refine wpAny_isTrue_value (nmF (hFl.keeps F.keep) (wpAny_truthy_bool ?_))
    cases flag with
    | true =>
      rw [if_pos rfl]
      exact Constant_bytes ⟨_, _, rfl, rfl⟩
    | false =>
      rw [if_neg (by decide)]
      walk_at "mw"
      refine Constant_bytes ?_
      refine MethodCall_ (nmL F rfl (KTBy.method ?_))
      refine callWith_method1 ?_
      repeat walk_at "mw"
      refine to_bytes_big (k := 2) (by walk_at "dp") (by walk_at "dp") fun t' k' => ?_
      refine KBy.add_bytes (by simp only [List.size_toArray, enc_length]; decide) fun t'' k'' => ?_
      refine ⟨t'', _, ?_, rfl⟩
      simp [saltOf]
  · rintro v s' ⟨tf, kf, rfl, rfl⟩
    refine stO F X rfl (c := s.heap.objs.size + 1 + 1 + 1) rfl fun h₂ F₂ X₂ S₂ => ?_
    have hcp : h₂.IsCell (s.heap.objs.size + 1) (some (.bytes pw.toArray t1)) := X₂.cell "passphrase" _ rfl
    have hcr : h₂.IsCell (s.heap.objs.size + 1 + 1) (some (.ref rl)) := X₂.cell "rights" _ rfl
    have hcf : h₂.IsCell (s.heap.objs.size + 1 + 1 + 1) (some (.bytes (saltOf flag ident).toArray tf)) := X₂.cell "front" _ rfl
    have G₂ := G.fr F₂
    have hEx₂ := hEx.keeps F₂.keep
    have hHa₂ := hHa.keeps F₂.keep
    have hrl₂ := isList_kp hrl F₂.keep
    dsimp only
    refine wpAny_execs_cons ?_
    walk_at "mw"
    refine ListComp_rangeH (n := 4) (cl := [("rights", s.heap.objs.size + 1 + 1), ("passphrase", s.heap.objs.size + 1), ("half", cHa), ("front", s.heap.objs.size + 1 + 1 + 1), ("exponent", cEx)])
      (fun h' i y => IsTq prog w h' y (rq i pw e (saltOf flag ident) (rs.getD i []))) (fun h h' a o i y r ho hn S => tq_st r ho hn S) (fun h h' i y r k => tq_kp r k) hh (by decide) (by rfl) (fun Q' hQ' => ?_) (fun C i ti s₃ m₃ E' hi hN hm hk => ?_) fun D h₃ tk₃ ys hD hl hlen hR hk => ?_
    · walk_at "mw"
      refine nmB G₂ (G.free _ (by decide)) (by boot_fast) ?_
      refine PyProof.Rows.callWith_type1 ?_
      walk_at "mw"
      walk_at "mw"
      refine wpAny_items_nil (call_range_1 ?_)
      exact hQ' _ _ _ _ _ _ (IsRange.new _ _ _ _ _ _ _) fun b o e => Heap.get?_push_of_some _ e
    · have G₃ := G₂.keeps hk
      refine wpAny_Tuple ?_
      walk_at "mw"
      walk_at "mw"
      walk_at "mw"
      refine nmB G₃ (G.free _ (by decide)) (by boot_fast) ?_
      refine PyProof.Rows.callWith_type1 ?_
      walk_at "mw"
      refine wpAny_List ?_
      walk_at "mw"
      refine nmLN hN hm (wpAny_items_nil ⟨by rw [sizeLine_eq]; simp, wpAny_items_nil ?_⟩)
      dsimp only
      generalize hH4 : (s₃.heap.push { cls := .type "list", data := .seq [Value.int (i : Int) ti].toArray }) = h₄
      have K₄ : Kp s₃.heap h₄ := fun b o e => hH4 ▸ Heap.get?_push_of_some _ e
      have hl₄ : h₄.IsList s₃.heap.objs.size [Value.int (i : Int) ti].toArray := hH4 ▸ ⟨_, Heap.get?_push_size _ rfl, rfl, _, rfl⟩
      refine call_bytes_ints (ns := [(i : Int)]) hl₄ (.cons _ _ .nil) (by simp; omega) (by rw [sizeLine_eq]; simp) hh fun h₅ t₅ k₅ K₅ => ?_
      have K35 : Kp s₃.heap h₅ := fun b o e => K₅ _ _ (K₄ _ _ e)
      have K25 : Kp h₂ h₅ := fun b o e => K35 _ _ (hk _ _ e)
      have eb : byteArr [(i : Int)] = [i.toUInt8].toArray := by simp [byteArr]
      rw [eb]
      refine nmC (hcp.keeps K25) (KBy.add_bytes (by simp; omega) fun t₆ k₆ => ?_)
      walk_at "mw"
      walk_at "mw"
      refine nmC (hcf.keeps K25) ?_
      walk_at "mw"
      obtain ⟨v, hv⟩ : ∃ v, vs[i]? = some v := ⟨vs[i]'(by rw [hrs.length, hl4]; exact hi), List.getElem?_eq_getElem _⟩
      obtain ⟨b, hb, tb, rfl⟩ := hrs.get i v hv
      refine nmC (hcr.keeps K25) (nmLN (hN.keeps K35) hm (item_list (isList_kp hrl₂ K25) (by walk_at "dp") (by walk_at "dp") (x := .bytes b.toArray tb) (by simpa using hv) ?_))
      have hbn : b.length = n := hrn _ (List.mem_of_getElem? hb)
      refine KBy.add_bytes (by simp; omega) fun t₇ k₇ => ?_
      walk_at "mw"
      walk_at "mw"
      walk_at "mw"
      walk_at "mw"
      walk_at "mw"
      have h2 : (Builtin.Int.intBits 2 : Int) * (e : Int) ≤ 2 ^ 27 := by
        rw [show (Builtin.Int.intBits 2 : Int) = 2 from by decide +kernel]; omega
      refine nmF (hEx₂.keeps K25) (pow_int (by walk_at "dp") h2 ?_)
      refine mul_int ?_ (IntMulOk.of_left (by decide +kernel))
      walk_at "mw"
      refine nmF (hHa₂.keeps K25) (wpAny_items_nil ⟨by rw [sizeLine_eq]; simp, ?_⟩)
      dsimp only
      have e1 : [i.toUInt8].toArray ++ pw.toArray = (i.toUInt8 :: pw).toArray := by simp
      have e2 : (saltOf flag ident).toArray ++ b.toArray = (saltOf flag ident ++ b).toArray := by simp
      have e3 : (2500 * 2 ^ (e : Int).toNat : Int) = ((2500 * 2 ^ e : Nat) : Int) := by rw [Int.toNat_natCast]; push_cast; rfl
      have e4 : rs.getD i [] = b := by rw [List.getD, hb]; rfl
      rw [e1, e2, e3, e4]
      refine ⟨⟨h₅.objs.size, rfl, _, _, _, Heap.get?_push_size _ rfl, rfl, rfl, ?_⟩, _, _, rfl, fun b o e => Heap.get?_push_of_some _ (K35 _ _ e)⟩
      unfold rq
      rw [hbn]
      exact .cons (by simp [partKind, isPart]) (.cons (by simp [partKind, isPart]) (.cons (by simp [partKind, isPart]) (.cons (by simp [partKind, isPart]) .nil)))
    · refine h D h₃ tk₃ ys ?_ hl ?_ fun b o e => hk _ _ (F₂.keep _ _ e)
      · cases q : s.heap.get? D with
        | none => rfl
        | some o => have := F₂.keep _ _ q; rw [hD] at this; cases this
      · refine All2.ofGet (by simp [hlen]) fun i a b ea eb => ?_
        have hi : i < 4 := by
          have := (List.getElem?_eq_some_iff.mp ea).1
          omega
        rw [List.getElem?_map, List.getElem?_range hi] at eb
        cases eb
        exact hR i a ea
end
end

section
set_option linter.unusedVariables false
set_option maxRecDepth 8000
theorem rq_inj {i j e e' : Nat} {pw pw' S S' r r' : List UInt8} (h : rq i pw e S r = rq j pw' e' S' r') : i.toUInt8 = j.toUInt8 ∧ pw = pw' ∧ S ++ r = S' ++ r' := by
  simp only [rq, qk, List.cons.injEq, Sum.inl.injEq, Sum.inr.injEq, and_true] at h
  exact ⟨h.1.1, h.1.2, h.2.1⟩

theorem look_none_of {t : List (QK × List UInt8)} {q : QK} (h : ∀ x ∈ t, x.1 ≠ q) : look t q = none := by
  unfold look
  rw [List.find?_eq_none.mpr (fun x hx => by simpa using h x hx)]
  rfl
theorem look_app {t u : List (QK × List UInt8)} {q : QK} : look (t ++ u) q = (look t q).or (look u q) := by
  unfold look
  rw [List.find?_append]
  cases t.find? (fun x => decide (x.1 = q)) <;> rfl
theorem look_app_some {t u : List (QK × List UInt8)} {q : QK} {b : List UInt8} (h : look t q = some b) : look (t ++ u) q = some b := by rw [look_app, h]; rfl
theorem look_app_none {t u : List (QK × List UInt8)} {q : QK} (h : look t q = none) : look (t ++ u) q = look u q := by rw [look_app, h]; rfl
theorem look_hit {q : QK} {b : List UInt8} {u : List (QK × List UInt8)} : look ((q, b) :: u) q = some b := by simp [look]
theorem look_skip {q q' : QK} {b : List UInt8} {u : List (QK × List UInt8)} (h : q' ≠ q) : look ((q', b) :: u) q = look u q := by simp [look, h]

variable {p : Pm} {pw S : List UInt8} {e : Nat}

theorem rstep_known {x : RS} {i : Nat} {v : List UInt8} (h : look x.σ.table (rq i pw e S x.r) = some v) :
    rstep p pw e S x i = ⟨⟨x.σ.asked ++ [rq i pw e S x.r], x.σ.table⟩, x.r, xorL x.l v⟩ := by
  unfold rstep askS askV
  rw [h]
theorem rstep_new {x : RS} {i : Nat} (h : look x.σ.table (rq i pw e S x.r) = none) :
    rstep p pw e S x i = ⟨⟨x.σ.asked ++ [rq i pw e S x.r], x.σ.table ++ [(rq i pw e S x.r, enc p.n (ansAt p x.σ.table.length))]⟩, x.r, xorL x.l (enc p.n (ansAt p x.σ.table.length))⟩ := by
  unfold rstep askS askV
  rw [h]

/-- the i-th question of a chain -/
abbrev cq (p : Pm) (pw : List UInt8) (e : Nat) (S : List UInt8) (i y : Nat) : QK := rq i pw e S (enc p.n y)
/-- four questions, by their right halves -/
def cqs (p : Pm) (pw : List UInt8) (e : Nat) (S : List UInt8) (y1 y2 y3 y4 : Nat) : List QK := [cq p pw e S 0 y1, cq p pw e S 1 y2, cq p pw e S 2 y3, cq p pw e S 3 y4]
structure Knows (p : Pm) (pw : List UInt8) (e : Nat) (S : List UInt8) (t : List (QK × List UInt8)) (y1 y2 y3 y4 a0 a1 a2 a3 : Nat) : Prop where
  k0 : look t (cq p pw e S 0 y1) = some (enc p.n a0)
  k1 : look t (cq p pw e S 1 y2) = some (enc p.n a1)
  k2 : look t (cq p pw e S 2 y3) = some (enc p.n a2)
  k3 : look t (cq p pw e S 3 y4) = some (enc p.n a3)
theorem Knows.more {t u : List (QK × List UInt8)} {y1 y2 y3 y4 a0 a1 a2 a3 : Nat} (k : Knows p pw e S t y1 y2 y3 y4 a0 a1 a2 a3) : Knows p pw e S (t ++ u) y1 y2 y3 y4 a0 a1 a2 a3 :=
  ⟨look_app_some k.k0, look_app_some k.k1, look_app_some k.k2, look_app_some k.k3⟩

theorem enc_known {asked : List QK} {t : List (QK × List UInt8)} {y0 y1 y2 y3 y4 y5 a0 a1 a2 a3 : Nat} (k : Knows p pw e S t y1 y2 y3 y4 a0 a1 a2 a3) (h2 : y0 ^^^ a0 = y2) (h3 : y1 ^^^ a1 = y3) (h4 : y2 ^^^ a2 = y4) (h5 : y3 ^^^ a3 = y5) :
    rounds p pw e S ⟨⟨asked, t⟩, enc p.n y0, enc p.n y1⟩ [0, 1, 2, 3] = ⟨⟨asked ++ cqs p pw e S y1 y2 y3 y4, t⟩, enc p.n y4, enc p.n y5⟩ := by
  unfold rounds
  simp only [List.foldl_cons, List.foldl_nil]
  rw [rstep_known (x := ⟨⟨asked, t⟩, enc p.n y0, enc p.n y1⟩) (i := 0) k.k0, xorL_enc, h2]
  rw [rstep_known (x := ⟨⟨_, t⟩, enc p.n y1, enc p.n y2⟩) (i := 1) k.k1, xorL_enc, h3]
  rw [rstep_known (x := ⟨⟨_, t⟩, enc p.n y2, enc p.n y3⟩) (i := 2) k.k2, xorL_enc, h4]
  rw [rstep_known (x := ⟨⟨_, t⟩, enc p.n y3, enc p.n y4⟩) (i := 3) k.k3, xorL_enc, h5]
  simp [cqs, cq]
theorem dec_known {asked : List QK} {t : List (QK × List UInt8)} {y0 y1 y2 y3 y4 y5 a0 a1 a2 a3 : Nat} (k : Knows p pw e S t y1 y2 y3 y4 a0 a1 a2 a3) (h2 : y5 ^^^ a3 = y3) (h3 : y4 ^^^ a2 = y2) (h4 : y3 ^^^ a1 = y1) (h5 : y2 ^^^ a0 = y0) :
    rounds p pw e S ⟨⟨asked, t⟩, enc p.n y5, enc p.n y4⟩ [3, 2, 1, 0] = ⟨⟨asked ++ (cqs p pw e S y1 y2 y3 y4).reverse, t⟩, enc p.n y1, enc p.n y0⟩ := by
  unfold rounds
  simp only [List.foldl_cons, List.foldl_nil]
  rw [rstep_known (x := ⟨⟨asked, t⟩, enc p.n y5, enc p.n y4⟩) (i := 3) k.k3, xorL_enc, h2]
  rw [rstep_known (x := ⟨⟨_, t⟩, enc p.n y4, enc p.n y3⟩) (i := 2) k.k2, xorL_enc, h3]
  rw [rstep_known (x := ⟨⟨_, t⟩, enc p.n y3, enc p.n y2⟩) (i := 1) k.k1, xorL_enc, h4]
  rw [rstep_known (x := ⟨⟨_, t⟩, enc p.n y2, enc p.n y1⟩) (i := 0) k.k0, xorL_enc, h5]
  simp [cqs, cq]

/-- the four questions of this password and salt were never asked -/
def NewFor (pw : List UInt8) (e : Nat) (S : List UInt8) (t : List (QK × List UInt8)) : Prop := ∀ i r, i < 4 → look t (rq i pw e S r) = none

theorem rq_ne {i j e' : Nat} {pw' S' r r' : List UInt8} (h : i ≠ j) (hi : i < 4) (hj : j < 4) : rq i pw e S r ≠ rq j pw' e' S' r' := fun q => by
  have := (rq_inj q).1
  have h2 : (i.toUInt8).toNat = (j.toUInt8).toNat := by rw [this]
  have e1 : (i.toUInt8).toNat = i := by show (UInt8.ofNat i).toNat = i; rw [UInt8.toNat_ofNat']; omega
  have e2 : (j.toUInt8).toNat = j := by show (UInt8.ofNat j).toNat = j; rw [UInt8.toNat_ofNat']; omega
  omega

def newT (p : Pm) (pw : List UInt8) (e : Nat) (S : List UInt8) (y1 y2 y3 y4 a0 a1 a2 a3 : Nat) : List (QK × List UInt8) :=
  [(cq p pw e S 0 y1, enc p.n a0), (cq p pw e S 1 y2, enc p.n a1), (cq p pw e S 2 y3, enc p.n a2), (cq p pw e S 3 y4, enc p.n a3)]

theorem knows_new {t : List (QK × List UInt8)} {y1 y2 y3 y4 a0 a1 a2 a3 : Nat} (h : NewFor pw e S t) : Knows p pw e S (t ++ newT p pw e S y1 y2 y3 y4 a0 a1 a2 a3) y1 y2 y3 y4 a0 a1 a2 a3 := by
  unfold newT
  refine ⟨?_, ?_, ?_, ?_⟩
  · rw [look_app_none (h 0 _ (by decide))]; exact look_hit
  · rw [look_app_none (h 1 _ (by decide)), look_skip (rq_ne (by decide) (by decide) (by decide))]; exact look_hit
  · rw [look_app_none (h 2 _ (by decide)), look_skip (rq_ne (by decide) (by decide) (by decide)), look_skip (rq_ne (by decide) (by decide) (by decide))]; exact look_hit
  · rw [look_app_none (h 3 _ (by decide)), look_skip (rq_ne (by decide) (by decide) (by decide)), look_skip (rq_ne (by decide) (by decide) (by decide)), look_skip (rq_ne (by decide) (by decide) (by decide))]; exact look_hit
theorem knows_newR {t : List (QK × List UInt8)} {y1 y2 y3 y4 a0 a1 a2 a3 : Nat} (h : NewFor pw e S t) : Knows p pw e S (t ++ (newT p pw e S y1 y2 y3 y4 a0 a1 a2 a3).reverse) y1 y2 y3 y4 a0 a1 a2 a3 := by
  simp only [newT, List.reverse_cons, List.reverse_nil, List.nil_append, List.cons_append]
  refine ⟨?_, ?_, ?_, ?_⟩
  · rw [look_app_none (h 0 _ (by decide)), look_skip (rq_ne (by decide) (by decide) (by decide)), look_skip (rq_ne (by decide) (by decide) (by decide)), look_skip (rq_ne (by decide) (by decide) (by decide))]; exact look_hit
  · rw [look_app_none (h 1 _ (by decide)), look_skip (rq_ne (by decide) (by decide) (by decide)), look_skip (rq_ne (by decide) (by decide) (by decide))]; exact look_hit
  · rw [look_app_none (h 2 _ (by decide)), look_skip (rq_ne (by decide) (by decide) (by decide))]; exact look_hit
  · rw [look_app_none (h 3 _ (by decide))]; exact look_hit

theorem enc_new {asked : List QK} {t : List (QK × List UInt8)} {y0 y1 y2 y3 y4 y5 a0 a1 a2 a3 : Nat} (h : NewFor pw e S t) (g0 : ansAt p t.length = a0) (g1 : ansAt p (t.length + 1) = a1) (g2 : ansAt p (t.length + 2) = a2) (g3 : ansAt p (t.length + 3) = a3)
    (h2 : y0 ^^^ a0 = y2) (h3 : y1 ^^^ a1 = y3) (h4 : y2 ^^^ a2 = y4) (h5 : y3 ^^^ a3 = y5) :
    rounds p pw e S ⟨⟨asked, t⟩, enc p.n y0, enc p.n y1⟩ [0, 1, 2, 3] = ⟨⟨asked ++ cqs p pw e S y1 y2 y3 y4, t ++ newT p pw e S y1 y2 y3 y4 a0 a1 a2 a3⟩, enc p.n y4, enc p.n y5⟩ := by
  unfold rounds
  simp only [List.foldl_cons, List.foldl_nil]
  have n0 : look t (rq 0 pw e S (enc p.n y1)) = none := h _ _ (by decide)
  have n1 : look (t ++ [(rq 0 pw e S (enc p.n y1), enc p.n a0)]) (rq 1 pw e S (enc p.n y2)) = none := by
    rw [look_app_none (h 1 _ (by decide)), look_skip (rq_ne (by decide) (by decide) (by decide))]; rfl
  have n2 : look (t ++ [(rq 0 pw e S (enc p.n y1), enc p.n a0), (rq 1 pw e S (enc p.n y2), enc p.n a1)]) (rq 2 pw e S (enc p.n y3)) = none := by
    rw [look_app_none (h 2 _ (by decide)), look_skip (rq_ne (by decide) (by decide) (by decide)), look_skip (rq_ne (by decide) (by decide) (by decide))]; rfl
  have n3 : look (t ++ [(rq 0 pw e S (enc p.n y1), enc p.n a0), (rq 1 pw e S (enc p.n y2), enc p.n a1), (rq 2 pw e S (enc p.n y3), enc p.n a2)]) (rq 3 pw e S (enc p.n y4)) = none := by
    rw [look_app_none (h 3 _ (by decide)), look_skip (rq_ne (by decide) (by decide) (by decide)), look_skip (rq_ne (by decide) (by decide) (by decide)), look_skip (rq_ne (by decide) (by decide) (by decide))]; rfl
  rw [rstep_new (x := ⟨⟨asked, t⟩, enc p.n y0, enc p.n y1⟩) (i := 0) n0, g0, xorL_enc, h2]
  rw [rstep_new (x := ⟨⟨_, t ++ [(rq 0 pw e S (enc p.n y1), enc p.n a0)]⟩, enc p.n y1, enc p.n y2⟩) (i := 1) n1]
  simp only [List.length_append, List.length_singleton, List.append_assoc, List.cons_append, List.nil_append]
  rw [g1, xorL_enc, h3]
  rw [rstep_new (x := ⟨⟨_, t ++ [(rq 0 pw e S (enc p.n y1), enc p.n a0), (rq 1 pw e S (enc p.n y2), enc p.n a1)]⟩, enc p.n y2, enc p.n y3⟩) (i := 2) n2]
  simp only [List.length_append, List.length_cons, List.length_nil, List.append_assoc, List.cons_append, List.nil_append]
  rw [show t.length + (0 + 1 + 1) = t.length + 2 from rfl, g2, xorL_enc, h4]
  rw [rstep_new (x := ⟨⟨_, t ++ [(rq 0 pw e S (enc p.n y1), enc p.n a0), (rq 1 pw e S (enc p.n y2), enc p.n a1), (rq 2 pw e S (enc p.n y3), enc p.n a2)]⟩, enc p.n y3, enc p.n y4⟩) (i := 3) n3]
  simp only [List.length_append, List.length_cons, List.length_nil, List.append_assoc, List.cons_append, List.nil_append]
  rw [show t.length + (0 + 1 + 1 + 1) = t.length + 3 from rfl, g3, xorL_enc, h5]
  simp [cqs, cq, newT]

theorem dec_new {asked : List QK} {t : List (QK × List UInt8)} {y0 y1 y2 y3 y4 y5 a0 a1 a2 a3 : Nat} (h : NewFor pw e S t) (g3 : ansAt p t.length = a3) (g2 : ansAt p (t.length + 1) = a2) (g1 : ansAt p (t.length + 2) = a1) (g0 : ansAt p (t.length + 3) = a0)
    (h3 : y5 ^^^ a3 = y3) (h2 : y4 ^^^ a2 = y2) (h1 : y3 ^^^ a1 = y1) (h0 : y2 ^^^ a0 = y0) :
    rounds p pw e S ⟨⟨asked, t⟩, enc p.n y5, enc p.n y4⟩ [3, 2, 1, 0] = ⟨⟨asked ++ (cqs p pw e S y1 y2 y3 y4).reverse, t ++ (newT p pw e S y1 y2 y3 y4 a0 a1 a2 a3).reverse⟩, enc p.n y1, enc p.n y0⟩ := by
  unfold rounds
  simp only [List.foldl_cons, List.foldl_nil]
  have n0 : look t (rq 3 pw e S (enc p.n y4)) = none := h _ _ (by decide)
  have n1 : look (t ++ [(rq 3 pw e S (enc p.n y4), enc p.n a3)]) (rq 2 pw e S (enc p.n y3)) = none := by
    rw [look_app_none (h 2 _ (by decide)), look_skip (rq_ne (by decide) (by decide) (by decide))]; rfl
  have n2 : look (t ++ [(rq 3 pw e S (enc p.n y4), enc p.n a3), (rq 2 pw e S (enc p.n y3), enc p.n a2)]) (rq 1 pw e S (enc p.n y2)) = none := by
    rw [look_app_none (h 1 _ (by decide)), look_skip (rq_ne (by decide) (by decide) (by decide)), look_skip (rq_ne (by decide) (by decide) (by decide))]; rfl
  have n3 : look (t ++ [(rq 3 pw e S (enc p.n y4), enc p.n a3), (rq 2 pw e S (enc p.n y3), enc p.n a2), (rq 1 pw e S (enc p.n y2), enc p.n a1)]) (rq 0 pw e S (enc p.n y1)) = none := by
    rw [look_app_none (h 0 _ (by decide)), look_skip (rq_ne (by decide) (by decide) (by decide)), look_skip (rq_ne (by decide) (by decide) (by decide)), look_skip (rq_ne (by decide) (by decide) (by decide))]; rfl
  rw [rstep_new (x := ⟨⟨asked, t⟩, enc p.n y5, enc p.n y4⟩) (i := 3) n0, g3, xorL_enc, h3]
  rw [rstep_new (x := ⟨⟨_, t ++ [(rq 3 pw e S (enc p.n y4), enc p.n a3)]⟩, enc p.n y4, enc p.n y3⟩) (i := 2) n1]
  simp only [List.length_append, List.length_singleton, List.append_assoc, List.cons_append, List.nil_append]
  rw [g2, xorL_enc, h2]
  rw [rstep_new (x := ⟨⟨_, t ++ [(rq 3 pw e S (enc p.n y4), enc p.n a3), (rq 2 pw e S (enc p.n y3), enc p.n a2)]⟩, enc p.n y3, enc p.n y2⟩) (i := 1) n2]
  simp only [List.length_append, List.length_cons, List.length_nil, List.append_assoc, List.cons_append, List.nil_append]
  rw [show t.length + (0 + 1 + 1) = t.length + 2 from rfl, g1, xorL_enc, h1]
  rw [rstep_new (x := ⟨⟨_, t ++ [(rq 3 pw e S (enc p.n y4), enc p.n a3), (rq 2 pw e S (enc p.n y3), enc p.n a2), (rq 1 pw e S (enc p.n y2), enc p.n a1)]⟩, enc p.n y2, enc p.n y1⟩) (i := 0) n3]
  simp only [List.length_append, List.length_cons, List.length_nil, List.append_assoc, List.cons_append, List.nil_append]
  rw [show t.length + (0 + 1 + 1 + 1) = t.length + 3 from rfl, g0, xorL_enc, h0]
  simp [cqs, cq, newT]

theorem newFor_nil : NewFor pw e S [] := fun _ _ _ => rfl
theorem newT_mem {pw' : List UInt8} {y1 y2 y3 y4 a0 a1 a2 a3 : Nat} {x : QK × List UInt8} (h : x ∈ newT p pw' e S y1 y2 y3 y4 a0 a1 a2 a3) : ∃ i y, x.1 = cq p pw' e S i y := by
  simp only [newT, List.mem_cons, List.not_mem_nil, or_false] at h
  rcases h with rfl | rfl | rfl | rfl <;> exact ⟨_, _, rfl⟩
theorem newFor_app {t u : List (QK × List UInt8)} (h : NewFor pw e S t) (hu : ∀ x ∈ u, ∀ i r, x.1 ≠ rq i pw e S r) : NewFor pw e S (t ++ u) := fun i r hi => by
  rw [look_app_none (h i r hi)]
  exact look_none_of fun x hx => hu x hx i r
theorem cq_pw {pw' : List UInt8} (h : pw' ≠ pw) {i j y : Nat} {S' r : List UInt8} : cq p pw' e S i y ≠ rq j pw e S' r := fun q => h (rq_inj q).2.1
theorem cq_salt {pw' S' : List UInt8} (h : S ≠ S') (hl : S.length = S'.length) {i j y : Nat} {r : List UInt8} : cq p pw' e S i y ≠ rq j pw e S' r := fun q => h (List.append_inj (rq_inj q).2.2 hl).1
theorem salt_ne {a b : Nat} (ha : a < 65536) (hb : b < 65536) (h : a ≠ b) : saltOf false a ≠ saltOf false b := fun q => by
  unfold saltOf at q
  simp only [Bool.false_eq_true, if_false] at q
  exact h (enc_inj (n := 2) (by walk_at "dp") (by walk_at "dp") (List.append_cancel_left q))
theorem salt_len {a b : Nat} : (saltOf false a).length = (saltOf false b).length := by simp [saltOf, enc_length]
end

section
set_option linter.unusedVariables false
set_option maxRecDepth 8000
section
variable {prog : Program} {w : World} {A : Around} {E : Value → Shared → Prop} {s : Shared} {env : Env} {L : Addr} {h₀ : Heap} {m mg mb : Str → Option Value} {p : Pm} {g : Heap} {σ : Sig}

/-- the part of a list that a slice takes -/
def cutOf {α : Type} (xs : List α) (lo hi : Option Int) : List α := (xs.drop (lo.elim 0 (clipAt xs.length))).take (hi.elim xs.length (clipAt xs.length) - lo.elim 0 (clipAt xs.length))

theorem lslice_raw {value slice : PySem.Expr} {l : Addr} {vs : List Value} {vl vu : Value} {lo hi : Option Int} {Q : Value → Shared → Prop} (hl : s.heap.IsList l vs.toArray) (pl : IsPart vl lo) (pu : IsPart vu hi) (hz : vs.length ≤ 1000)
    (h : ∀ D h', Kp s.heap h' → s.heap.get? D = none → h'.PlainList D (cutOf vs lo hi).toArray → Q (.ref D) { s with heap := h' })
    (hs : subscripted slice false (.ref l) (.ref s.heap.objs.size) = operate [.ref s.heap.objs.size, .ref l] (getItem (.ref l) (.ref s.heap.objs.size)) := by with_unfolding_all rfl)
    (ht : ∀ r, letTemporaryGo value (.ref l) r = pure () := by intro _; with_unfolding_all rfl) :
    wpAny (model prog w) A (subscriptTail value slice (.ref l) (.ref s.heap.objs.size)) Q E { s with heap := s.heap.push { cls := .type "slice", data := .fields #[vl, vu, .none] } } := by
  refine subscriptTail_ops (Heap.IsList.typeIs (s := { s with heap := s.heap.push { cls := .type "slice", data := .fields #[vl, vu, .none] } }) (hl.push _)) list_getitem_lookup
    (wpAny_getItem_list_slice (hl.push _) (Heap.IsSliceOf.new ..) pl pu .none (by simp) ?_ (by rw [List.size_toArray, sizeLine_eq]; omega)) hs ht
  have e : slicePick vs.toArray lo hi none = (cutOf vs lo hi).toArray := by
    unfold slicePick cutOf
    rw [sliceBounds_plain]
    simp only [sliceRange_one, pick_run, List.size_toArray]
  rw [e]
  refine h _ _ (fun b o e => Heap.get?_push_of_some _ (Heap.get?_push_of_some _ e)) ?_ ⟨_, Heap.get?_push_size _ rfl⟩
  cases q : s.heap.get? (s.heap.push { cls := .type "slice", data := .fields #[vl, vu, .none] }).objs.size with
  | none => rfl
  | some o =>
    have h1 : @LT.lt Nat _ (s.heap.push { cls := .type "slice", data := .fields #[vl, vu, .none] }).objs.size s.heap.objs.size := Heap.lt_size q
    rw [Heap.size_push] at h1
    omega

theorem ladd_raw {l b : Addr} {vs us : List Value} {Q : Value → Shared → Prop} (hl : s.heap.IsList l vs.toArray) (hb : s.heap.IsList b us.toArray) (hz : vs.length + us.length ≤ 1000)
    (h : ∀ h', Kp s.heap h' → h'.PlainList s.heap.objs.size (vs ++ us).toArray → Q (.ref s.heap.objs.size) { s with heap := h' }) : wpAny (model prog w) A (binaryOp .Add (.ref l) (.ref b)) Q E s := by
  obtain ⟨⟨oc, od, dt, sl⟩, ho, hc, n, hd⟩ := hl
  obtain ⟨⟨oc2, od2, dt2, sl2⟩, ho2, hc2, n2, hd2⟩ := hb
  dsimp only at hc hd hc2 hd2
  subst hc hd hc2 hd2
  refine concat_meets ⟨_, ho, rfl⟩ ⟨_, ho2, rfl⟩ noFill_list_add seq_list_add F.slot_list_add F.entry_list_add (F.args_list_add_2 _ _) (PyProof.Rows.list_addW l b vs.toArray us.toArray n n2 od od2 sl sl2 (by rw [List.size_toArray, List.size_toArray, sizeLine_eq]; omega)) ⟨ho, ho2, ?_⟩
  have e : vs.toArray ++ us.toArray = (vs ++ us).toArray := by simp
  rw [e]
  exact h _ (fun b o e => Heap.get?_push_of_some _ e) ⟨_, Heap.get?_push_size _ rfl⟩

/-- the items of a list into names -/
theorem unpackL {elts : List PySem.Expr} {k : Nat} {tpos : Pos} {l : Addr} {vs : List Value} {Q : Unit → Shared → Prop} (hh : A.handled = none) (hl : s.heap.IsList l vs.toArray) (hn : (assignEach elts env).length = vs.length) (hstar : (assignEach elts env).findIdx? (·.1) = none)
    (h : ∀ h', Kp s.heap h' → wpAny (model prog w) A (assignInOrder ((assignEach elts env).map (·.2)) vs) Q E { s with heap := h' }) :
    wpAny (model prog w) A (assign (.Tuple elts k tpos) env (.ref l)) Q E s := by
  rw [assign_Tuple]
  refine wpAny_bind (wpAny_standAt ?_)
  unfold unpack
  have hn' : (assignEach elts env).length = vs.toArray.size := by rw [List.size_toArray]; exact hn
  rw [hn', hstar]
  refine wpAny_bind (wpAny_holding (kun_itemsOf hh hl fun h' S => ?_))
  exact h h' fun b o e => S b o (Nat.ne_of_lt (Heap.lt_size e)) e

theorem eqAt_part {a b : Part} {u v : Value} (hu : isPart a u = true) (hv : isPart b v = true) : SeqAt.EqAt A s u v (decide (a = b)) := fun prog w E Q h => eqBool_part hu hv h

theorem items_at : ∀ {ks : List Part} {vs : List Value}, ItemsAre (partKind prog w) ks vs → ∀ (i : Nat) (x : Part) (y : Value), ks[i]? = some x → vs[i]? = some y → isPart x y = true
  | _, _, .nil, i, x, y, h, _ => by simp at h
  | _, _, .cons h r, 0, x, y, h1, h2 => by simp at h1 h2; subst h1 h2; exact h
  | _, _, .cons h r, i + 1, x, y, h1, h2 => items_at r i x y (by simpa using h1) (by simpa using h2)

theorem eqAt_tq {u v : Value} {q : QK} (hu : IsTq prog w s.heap u q) (hv : IsTq prog w s.heap v q) (hun : A.units < cLine) : SeqAt.EqAt A s u v true := by
  obtain ⟨a, rfl, o, it, n, ho, hc, hd, hp⟩ := hu
  obtain ⟨b, rfl, o2, it2, n2, ho2, hc2, hd2, hp2⟩ := hv
  by_cases hab : a = b
  · subst hab
    exact SeqAt.EqAt.same _
  · refine SeqAt.EqAt.of_refs hab ?_
    have hs1 : it.size = q.length := by have := hp.length; simpa using this.symm
    have hs2 : it2.size = q.length := by have := hp2.length; simpa using this.symm
    have := SeqAt.RcAt.tuples (A := A) (s := s) (e := fun _ => true) ⟨o, ho, hc, n, hd⟩ ⟨o2, ho2, hc2, n2, hd2⟩ hun (fun j h1 h2 => ?_)
    · have e : ((List.range (min it.size it2.size)).all (fun _ => true) && it.size == it2.size) = true := by
        rw [hs1, hs2]; simp
      rw [e] at this
      exact this
    · have hj : j < q.length := by omega
      have p1 := items_at hp j q[j] it[j] (List.getElem?_eq_getElem hj) (by simp [h1])
      have p2 := items_at hp2 j q[j] it2[j] (List.getElem?_eq_getElem hj) (by simp [h2])
      have := eqAt_part (A := A.in1) (s := s) (a := q[j]) (b := q[j]) p1 p2
      simpa using this

/-- two lists of the same questions are not unequal -/
theorem ne_tqs {a b : Addr} {vs us : List Value} {qs : List QK} {Q : Value → Shared → Prop} (ha : s.heap.IsList a vs.toArray) (hb : s.heap.IsList b us.toArray) (hv : All2 (IsTq prog w s.heap) vs qs) (hu : All2 (IsTq prog w s.heap) us qs) (hun : A.units + 2 < cLine)
    (h : Q (.bool false) s) : wpAny (model prog w) A (compareOp .NotEq (.ref a) (.ref b)) Q E s := by
  have hl : vs.toArray.size = us.toArray.size := by rw [List.size_toArray, List.size_toArray, hv.length, hu.length]
  have := SeqAt.RcNeAt.lists (A := A) (s := s) (e := fun _ => true) ha hb hl (by walk_at "dp") (fun j h1 h2 => ?_)
  · refine this prog w E Q ?_
    have e : (!(List.range vs.toArray.size).all fun _ => true) = false := by simp
    rw [e]
    exact h
  · have h1' : j < vs.length := by simpa using h1
    have h2' : j < us.length := by simpa using h2
    obtain ⟨q, hq, t1⟩ := hv.get j vs[j] (List.getElem?_eq_getElem h1')
    obtain ⟨q', hq', t2⟩ := hu.get j us[j] (List.getElem?_eq_getElem h2')
    rw [hq] at hq'
    cases hq'
    exact eqAt_tq t1 t2 (by show A.units + 1 < _; walk_at "dp")

theorem All2.app {α β : Type} {R : α → β → Prop} : ∀ {as as' : List α} {bs bs' : List β}, All2 R as bs → All2 R as' bs' → All2 R (as ++ as') (bs ++ bs')
  | _, _, _, _, .nil, h => h
  | _, _, _, _, .cons a r, h => .cons a (r.app h)
theorem All2.drop {α β : Type} {R : α → β → Prop} : ∀ (n : Nat) {as : List α} {bs : List β}, All2 R as bs → All2 R (as.drop n) (bs.drop n)
  | 0, _, _, h => h
  | n + 1, _, _, .nil => .nil
  | n + 1, _, _, .cons _ r => by simpa using r.drop n
end
end

section
set_option linter.unusedVariables false
set_option maxRecDepth 8000
abbrev envL (L : Addr) : Env := envOfC "law" (scoOf (stm 23)) L 146 (.ref 145)
abbrev ownL (L : Addr) : List (Str × Addr) := cellsFrom (L + 1) (scoOf (stm 23)).names []

/-- the values that law builds -/
structure Vl where
  n : Nat
  e : Nat
  ident : Nat
  other : Nat
  flag : Bool
  mine : List UInt8
  yours : List UInt8
  left : Nat
  right : Nat
  upper : Nat
  lower : Nat
  r : List Nat
structure Vl.Ok (v : Vl) : Prop where
  n16 : v.n ≤ 16
  e16 : v.e < 16
  ident : v.ident < 32768
  other : v.other < 32768
  mine : v.mine.length ≤ 12
  yours : v.yours.length ≤ 12
  left : v.left < 256 ^ v.n
  right : v.right < 256 ^ v.n
  upper : v.upper < 256 ^ v.n
  lower : v.lower < 256 ^ v.n
  len : v.r.length = 10
  r : ∀ x ∈ v.r, x < 256 ^ v.n
def Vl.ri (v : Vl) (i : Nat) : Nat := v.r.getD i 0
theorem Vl.Ok.ri {v : Vl} (o : v.Ok) (i : Nat) : v.ri i < 256 ^ v.n := by
  unfold Vl.ri
  by_cases h : i < v.r.length
  · rw [List.getD, List.getElem?_eq_getElem h]; exact o.r _ (List.getElem_mem h)
  · rw [List.getD, List.getElem?_eq_none (by walk_at "dp")]; exact Nat.pow_pos (by decide)
def Vl.secret (v : Vl) : List UInt8 := enc v.n v.left ++ enc v.n v.right
def Vl.wanted (v : Vl) : List UInt8 := enc v.n v.upper ++ enc v.n v.lower
def Vl.ans (v : Vl) : List Nat := v.r.take 2 ++ [v.left ^^^ v.ri 0 ^^^ v.lower, v.right ^^^ v.ri 1 ^^^ v.upper] ++ v.r.drop 2

structure Bg (K : Frag) (mg mb : Str → Option Value) (p : Pm) (v : Vl) (L fQ cQ : Addr) (g : Heap) : Prop where
  G : Gl mg mb g
  M : Em K mg g
  P : p.Ok g
  vo : v.Ok
  pn : p.n = v.n
  pa : p.ans = v.ans
  q : QFn g fQ cQ (clQ (L + 6) (L + 7) (L + 8))
  fL : Frsh p g L
  own : ∀ n c, (n, c) ∈ ownL L → Frsh p g c
  cAn : p.cAn = L + 4
  cAs : p.cAs = L + 5
  cHa : p.cHa = L + 8
  cTa : p.cTa = L + 9
  t143 : ∃ ps, g.get? 143 = some (tabObj ps)

structure LSt (prog : Program) (w : World) (p : Pm) (g b0 : Heap) (L : Addr) (σ : Sig) (m cm : Str → Option Value) (h : Heap) (gs : Array GenState) : Prop where
  F : Fr b0 L h m
  X : Cl L (ownL L) h cm
  C : C prog w p g σ h
  gens : AllBare gs

/-- the local names that stay -/
structure Nm (v : Vl) (p : Pm) (fQ : Addr) (m : Str → Option Value) : Prop where
  identifier : ∃ t, m "identifier" = some (.int (v.ident : Int) t)
  other : ∃ t, m "other" = some (.int (v.other : Int) t)
  mine : ∃ t, m "mine" = some (.bytes v.mine.toArray t)
  yours : ∃ t, m "yours" = some (.bytes v.yours.toArray t)
  left : ∃ t, m "left" = some (.int (v.left : Int) t)
  right : ∃ t, m "right" = some (.int (v.right : Int) t)
  upper : ∃ t, m "upper" = some (.int (v.upper : Int) t)
  lower : ∃ t, m "lower" = some (.int (v.lower : Int) t)
  secret : ∃ t, m "secret" = some (.bytes v.secret.toArray t)
  wanted : ∃ t, m "wanted" = some (.bytes v.wanted.toArray t)
  stretch : m "stretch" = some (.ref p.fS)
  questions : m "questions" = some (.ref fQ)
def nmStay : List Str := ["identifier", "other", "mine", "yours", "left", "right", "upper", "lower", "secret", "wanted", "stretch", "questions"]
theorem Nm.set {v : Vl} {p : Pm} {fQ : Addr} {m : Str → Option Value} (N : Nm v p fQ m) {x : Str} {u : Value} (h : ∀ y ∈ nmStay, y ≠ x := by decide) : Nm v p fQ (fun y => if y = x then some u else m y) := by
  have k : ∀ y ∈ nmStay, (if y = x then some u else m y) = m y := fun y hy => if_neg (h y hy)
  simp only [nmStay, List.mem_cons, List.not_mem_nil, or_false, forall_eq_or_imp, forall_eq] at k
  obtain ⟨k1, k2, k3, k4, k5, k6, k7, k8, k9, k10, k11, k12⟩ := k
  exact ⟨(by have q := N.identifier; rw [← k1] at q; exact q), (by have q := N.other; rw [← k2] at q; exact q), (by have q := N.mine; rw [← k3] at q; exact q), (by have q := N.yours; rw [← k4] at q; exact q), (by have q := N.left; rw [← k5] at q; exact q), (by have q := N.right; rw [← k6] at q; exact q), (by have q := N.upper; rw [← k7] at q; exact q), (by have q := N.lower; rw [← k8] at q; exact q), (by have q := N.secret; rw [← k9] at q; exact q), (by have q := N.wanted; rw [← k10] at q; exact q), (by have q := N.stretch; rw [← k11] at q; exact q), (by have q := N.questions; rw [← k12] at q; exact q)⟩

/-- the cells that stay -/
structure Cm (v : Vl) (p : Pm) (cm : Str → Option Value) : Prop where
  exponent : ∃ t, cm "exponent" = some (.int (v.e : Int) t)
  flag : cm "flag" = some (.bool v.flag)
  half : ∃ t, cm "half" = some (.int (v.n : Int) t)
  answers : cm "answers" = some (.ref p.lAn)
  asked : cm "asked" = some (.ref p.aA)
  table : cm "table" = some (.ref p.tA)
def cmStay : List Str := ["exponent", "flag", "half", "answers", "asked", "table"]
theorem Cm.set {v : Vl} {p : Pm} {cm : Str → Option Value} (N : Cm v p cm) {x : Str} {u : Value} (h : ∀ y ∈ cmStay, y ≠ x := by decide) : Cm v p (fun y => if y = x then some u else cm y) := by
  have k : ∀ y ∈ cmStay, (if y = x then some u else cm y) = cm y := fun y hy => if_neg (h y hy)
  simp only [cmStay, List.mem_cons, List.not_mem_nil, or_false, forall_eq_or_imp, forall_eq] at k
  obtain ⟨k1, k2, k3, k4, k5, k6⟩ := k
  exact ⟨(by have q := N.exponent; rw [← k1] at q; exact q), (by have q := N.flag; rw [← k2] at q; exact q), (by have q := N.half; rw [← k3] at q; exact q), (by have q := N.answers; rw [← k4] at q; exact q), (by have q := N.asked; rw [← k5] at q; exact q), (by have q := N.table; rw [← k6] at q; exact q)⟩

section
variable {prog : Program} {w : World} {A : Around} {E : Value → Shared → Prop} {s : Shared} {L fQ cQ : Addr} {b0 : Heap} {m cm mg mb : Str → Option Value} {p : Pm} {g : Heap} {σ σ' : Sig} {v : Vl} {K : Frag}



theorem C.exD {h : Heap} (x : C prog w p g σ h) : ∀ a ∈ p.D, ∃ o, h.get? a = some o := fun a ha => by
  simp only [Pm.D, List.mem_cons, List.not_mem_nil, or_false] at ha
  rcases ha with rfl | rfl | rfl
  · obtain ⟨_, ⟨_, e⟩, _⟩ := x.asked; exact ⟨_, e⟩
  · obtain ⟨_, ⟨_, _, _, e, _⟩, _⟩ := x.table; exact ⟨_, e⟩
  · obtain ⟨_, _, e⟩ := x.xt; exact ⟨_, e.2⟩

theorem LSt.kpb {h0 : Heap} {gs0 : Array GenState} (S : LSt prog w p g b0 L σ m cm h0 gs0) (B : Bg K mg mb p v L fQ cQ g) {h' : Heap} {gs : Array GenState} (Kx : KpB p.D h0 h') (c : Mine.C prog w p g σ' h') (hg : AllBare gs) (hb0 : ∀ a ∈ p.D, b0.get? a = none) :
    LSt prog w p g b0 L σ' m cm h' gs where
  F := ⟨let ⟨o, es, ep, e, r⟩ := S.F.ns; ⟨o, es, ep, Kx _ _ B.fL.D e, r⟩, fun b o e => Kx _ _ (fun hm => by rw [hb0 b hm] at e; cases e) (S.F.keep _ _ e), S.F.above⟩
  X := ⟨fun n c e => let ⟨o, ho, hd⟩ := S.X.cell n c e; ⟨o, Kx _ _ (B.own n c (mem_of_lookup e)).D ho, hd⟩, S.X.apart, S.X.above⟩
  C := c
  gens := hg
theorem LSt.kp {h0 : Heap} {gs0 : Array GenState} (S : LSt prog w p g b0 L σ m cm h0 gs0) {h' : Heap} (Kx : Kp h0 h') : LSt prog w p g b0 L σ m cm h' gs0 where
  F := S.F.keeps Kx
  X := S.X.keeps Kx
  C := S.C.keeps Kx
  gens := S.gens

/-- a store into a local of law -/
theorem stLw {x : Str} {u : Value} {Q : Unit → Shared → Prop} (S : LSt prog w p g b0 L σ m cm s.heap s.gens) (B : Bg K mg mb p v L fQ cQ g) (h : ∀ h', LSt prog w p g b0 L σ (fun y => if y = x then some u else m y) cm h' s.gens → Heap.SameBut L s.heap h' → Q () { s with heap := h', toks := s.toks + 1 })
    (hl : (envL L).kindOf x = some .local := by rfl) : wpAny (model prog w) A (storeName (envL L) x u) Q E s :=
  wpAny_storeName_local hl S.F.ns (fun h' hn hs => h h' ⟨S.F.set hn hs, S.X.sameBut hs (Nat.le_refl _), S.C.local B.fL S.F.ns hs, S.gens⟩ hs) (by rfl)

/-- a cell of law may change where the state does not lean on it -/
theorem C.cellset {h h' : Heap} {c : Addr} {u : Option Value} (x : C prog w p g σ h) (fc : Frsh p g c) (hc : h.IsCell c u) (S : Heap.ExtBut c h h') (h1 : c ≠ p.cAn) (h2 : c ≠ p.cAs) (h3 : c ≠ p.cHa) (h4 : c ≠ p.cTa) : C prog w p g σ h' := by
  obtain ⟨oc, hoc, hdc⟩ := hc
  have ne : ∀ {b : Addr} {o : Obj}, h.get? b = some o → (∀ vs, o.data ≠ .cell vs) → b ≠ c := fun {b o} e h1 q => by
    rw [q, hoc] at e
    cases e
    exact h1 _ hdc
  have tup : ∀ {q : QK} {a : Addr}, IsTupleKey (partKind prog w) h q a → IsTupleKey (partKind prog w) h' q a := fun {q a} ⟨o, it, n, ho, hc, hd, r⟩ =>
    ⟨o, it, n, S _ _ (ne ho fun _ q => by rw [hd] at q; cases q) ho, hc, hd, r⟩
  have cell : ∀ {d : Addr} {v : Option Value}, d ≠ c → h.IsCell d v → h'.IsCell d v := fun {d v} hn ⟨o, ho, hd⟩ => ⟨o, S _ _ hn ho, hd⟩
  refine ⟨fun b o e => S b o (fun q => by rw [q, fc.g] at e; cases e) (x.keep b o e), ?_, ?_, ?_, ?_, cell (Ne.symm h1) x.c1, cell (Ne.symm h2) x.c2, (let ⟨t, c⟩ := x.c3; ⟨t, cell (Ne.symm h3) c⟩), cell (Ne.symm h4) x.c4, ?_⟩
  · obtain ⟨vs, ⟨n, e⟩, a⟩ := x.asked
    exact ⟨vs, ⟨n, S _ _ (Ne.symm fc.a) e⟩, a.imp fun v q ⟨a, e, t⟩ => ⟨a, e, tup t⟩⟩
  · obtain ⟨xs, ⟨o, es, ep, ho, hx, hd, he, hk, hn⟩, a⟩ := x.table
    exact ⟨xs, ⟨o, es, ep, S _ _ (Ne.symm fc.t) ho, hx, hd, he, fun y hy => tup (hk y hy), hn⟩, a⟩
  · obtain ⟨ps, hc, ht⟩ := x.xt
    obtain ⟨⟨oc', vs, e, hcl, hdc', _⟩, _⟩ := id ht
    exact XT.at x.xt (fun o e' => S _ _ (ne e' fun _ q => by rw [e] at e'; cases e'; rw [hdc'] at q; cases q) e') fun o e => S _ _ (Ne.symm fc.x) e
  · obtain ⟨od, doc, pm, ct, a, c2, oc', vs, t, e, b, d, r⟩ := x.fn
    cases e
    exact ⟨od, doc, pm, ct, S _ _ (ne a fun _ q => by cases q) a, _, oc', vs, t, rfl, S _ _ (Ne.symm fc.c) b, d, r⟩
  · obtain ⟨vs, ⟨o, e, hc, n, hd⟩, b⟩ := x.answers
    exact ⟨vs, ⟨o, S _ _ (ne e fun _ q => by rw [hd] at q; cases q) e, hc, n, hd⟩, b⟩

theorem own_addr {L : Addr} {x : Str} {c : Addr} (h : (ownL L).lookup x = some c) : (x, c) ∈ ownL L := mem_of_lookup h

/-- a store into a cell of law: first or second -/
theorem stCw {x : Str} {c : Addr} {u : Value} {Q : Unit → Shared → Prop} (S : LSt prog w p g b0 L σ m cm s.heap s.gens) (B : Bg K mg mb p v L fQ cQ g) (hc : (ownL L).lookup x = some c) (hlt : @LT.lt Nat _ c (L + 4)) (h : ∀ h', LSt prog w p g b0 L σ m (fun y => if y = x then some u else cm y) h' s.gens → Heap.SameBut c s.heap h' → Q () { s with heap := h' })
    (hl : (envL L).kindOf x = some .cell := by rfl) : wpAny (model prog w) A (storeName (envL L) x u) Q E s := by
  refine stO (cl := []) S.F S.X (by simp; rfl) hc (fun h' F' X' S' => h h' ⟨F', X', ?_, S.gens⟩ S') rfl hl
  have hn : ∀ k : Nat, 4 ≤ k → c ≠ @HAdd.hAdd Nat Nat Nat _ L k := fun k hk q => by
    have q' : @Eq Nat c (@HAdd.hAdd Nat Nat Nat _ L k) := q
    have h4 : @LT.lt Nat _ c (@HAdd.hAdd Nat Nat Nat _ L 4) := hlt
    omega
  exact S.C.cellset (B.own x c (mem_of_lookup hc)) (S.X.cell x c hc) S'.extBut (by rw [B.cAn]; exact hn _ (by decide)) (by rw [B.cAs]; exact hn _ (by decide)) (by rw [B.cHa]; exact hn _ (by decide)) (by rw [B.cTa]; exact hn _ (by decide))

/-- a name that a cell of law holds -/
theorem nmX {x : Str} {c : Addr} {pos : Pos} {u : Value} {Q : Value → Shared → Prop} (X : Cl L (ownL L) s.heap cm) (hv : cm x = some u) (h : Q u s) (hc : (ownL L).lookup x = some c := by rfl)
    (hl : (envL L).kindOf x = some .cell := by rfl) (hd : (x == ("__debug__" : Str)) = false := by decide) : wpAny (model prog w) A (eval (.Name x pos) (envL L)) Q E s :=
  wpAny_Name (wpAny_loadName_cell rfl hl hc (hv ▸ X.cell x c hc) h) hd

theorem LSt.new {h0 : Heap} {gs0 : Array GenState} (S : LSt prog w p g b0 L σ m cm h0 gs0) {a : Addr} (h : h0.get? a = none) : a ∉ p.D ∧ a ≠ L ∧ ∀ n c, (ownL L).lookup n = some c → a ≠ c := by
  refine ⟨fun hm => ?_, fun q => ?_, fun n c hc q => ?_⟩
  · obtain ⟨o, e⟩ := S.C.exD a hm
    rw [h] at e; cases e
  · obtain ⟨o, _, _, e, _⟩ := S.F.ns
    rw [← q, h] at e; cases e
  · obtain ⟨o, e, _⟩ := S.X.cell n c hc
    rw [← q, h] at e; cases e

theorem C.reg {g' h : Heap} (x : C prog w p g σ h) (k : Kp g' h) : C prog w p g' σ h := ⟨k, x.asked, x.table, x.xt, x.fn, x.c1, x.c2, x.c3, x.c4, x.answers⟩
theorem LSt.reg {h0 : Heap} {gs0 : Array GenState} {g' : Heap} (S : LSt prog w p g b0 L σ m cm h0 gs0) (k : Kp g' h0) : LSt prog w p g' b0 L σ m cm h0 gs0 := ⟨S.F, S.X, S.C.reg k, S.gens⟩
theorem Frsh.reg {g' : Heap} {a : Addr} (x : Frsh p g a) (k : g'.get? a = none) : Frsh p g' a := ⟨k, x.a, x.t, x.x, x.c⟩
theorem Pm.Ok.reg {g' : Heap} (x : p.Ok g) (h1 : g'.get? p.aA = none) (h2 : g'.get? p.tA = none) (h3 : g'.get? 30 = none) : p.Ok g' := ⟨h1, h2, h3, x.sys, x.n16, x.len, x.lt, x.ne, x.aX, x.tX, x.cX⟩

/-- the ground may take in all that is there -/
theorem rebase {h0 : Heap} {gs0 : Array GenState} (B : Bg K mg mb p v L fQ cQ g) (S : LSt prog w p g b0 L σ m cm h0 gs0) (hnd : ∀ n c, (n, c) ∈ ownL L → (ownL L).lookup n = some c) : ∃ g', Bg K mg mb p v L fQ cQ g' ∧ LSt prog w p g' b0 L σ m cm h0 gs0 ∧ Kp g g' ∧
    ∀ a o, h0.get? a = some o → (a ∉ p.D ∧ a ≠ L ∧ ∀ n c, (ownL L).lookup n = some c → a ≠ c) → g'.get? a = some o := by
  have hid : ∀ a ∈ p.D ++ L :: (ownL L).map (·.2), g.get? a = none := fun a ha => by
    simp only [List.mem_append, List.mem_cons, List.mem_map] at ha
    rcases ha with ha | rfl | ⟨⟨n, c⟩, hm, rfl⟩
    · simp only [Pm.D, List.mem_cons, List.not_mem_nil, or_false] at ha
      rcases ha with rfl | rfl | rfl
      · exact B.P.gA
      · exact B.P.gT
      · exact B.P.gX
    · exact B.fL.g
    · exact (B.own n c hm).g
  have k : Kp g (hideAll h0 (p.D ++ L :: (ownL L).map (·.2))) := kp_hide S.C.keep hid
  have hn : ∀ a ∈ p.D ++ L :: (ownL L).map (·.2), (hideAll h0 (p.D ++ L :: (ownL L).map (·.2))).get? a = none := fun a ha => hideAll_none _ ha
  refine ⟨hideAll h0 (p.D ++ L :: (ownL L).map (·.2)), ?_, ?_, k, fun a o e h => hideAll_get _ e ?_⟩
  · exact ⟨B.G.keeps k, B.M.keeps k, B.P.reg (hn _ (by simp [Pm.D])) (hn _ (by simp [Pm.D])) (hn _ (by simp [Pm.D])), B.vo, B.pn, B.pa, B.q.keeps k, B.fL.reg (hn _ (List.mem_append_right _ (.head _))),
      fun n c hm => (B.own n c hm).reg (hn _ (List.mem_append_right _ (.tail _ (List.mem_map.mpr ⟨(n, c), hm, rfl⟩)))), B.cAn, B.cAs, B.cHa, B.cTa, let ⟨ps, e⟩ := B.t143; ⟨ps, k _ _ e⟩⟩
  · exact S.reg fun b o e => of_hideAll _ e
  · intro hm
    simp only [List.mem_append, List.mem_cons, List.mem_map] at hm
    rcases hm with hm | rfl | ⟨⟨n, c⟩, hm, rfl⟩
    · exact h.1 hm
    · exact h.2.1 rfl
    · exact h.2.2 n c (hnd n c hm) rfl
end
end

section
set_option linter.unusedVariables false
set_option maxRecDepth 8000
section
variable {prog : Program} {w : World} {A : Around} {E : Value → Shared → Prop} {s : Shared} {L fQ cQ : Addr} {b0 : Heap} {m cm mg mb : Str → Option Value} {p : Pm} {g : Heap} {σ σ' : Sig} {v : Vl} {K : Frag}



theorem Flies.kp {base : Heap} {fr : List Env} {h₁ : Heap} {k₁ : Nat} (f : Flies base fr E s) (k : Kp s.heap h₁) : Flies base fr E { s with heap := h₁, toks := k₁ } := fun e t h' k' fl up => f e t h' k' fl ((Heap.UpToSlots.of_keeps k).trans up)

theorem LSt.below {h0 : Heap} {gs0 : Array GenState} (S : LSt prog w p g b0 L σ m cm h0 gs0) (hfr : A.frames = some [envL L]) : Below A (hideAll h0 [L]) [envL L] h0 := by
  obtain ⟨o, es, ep, e, hd, _⟩ := id S.F.ns
  exact ⟨hfr, fun b o e => of_hideAll _ e, by show (scoOf (stm 23)).kind ≠ _; decide, ⟨L, o, rfl, hideAll_none _ (.head _), e, fun vs q => by rw [hd] at q; cases q⟩, trivial⟩

theorem LSt.caught {h0 : Heap} {gs0 : Array GenState} (S : LSt prog w p g b0 L σ m cm h0 gs0) (B : Bg K mg mb p v L fQ cQ g) (hb0 : b0.get? L = none) {h' : Heap} (st : (hideAll h0 [L]).StaysIn h') (up : h0.UpToSlots h') : LSt prog w p g b0 L σ m cm h' gs0 := by
  have keep : ∀ b o, b ≠ L → h0.get? b = some o → h'.get? b = some o := fun b o hb e => st b o (hideAll_get _ e (by simpa using hb))
  obtain ⟨o, es, ep, e, hd, r⟩ := id S.F.ns
  refine ⟨⟨up.ns S.F.ns, fun b o e => keep b o (fun q => by rw [q, hb0] at e; cases e) (S.F.keep _ _ e), S.F.above⟩, S.X.extBut keep (Nat.le_refl _), S.C.ext keep B.fL.g B.fL.a B.fL.t B.fL.x B.fL.c ⟨o, e, .inl ⟨es, ep, hd⟩⟩, S.gens⟩

/-- a try of law whose body raises ValueError -/
theorem try_odd {b : Stmt} {np p1 p2 p3 pos pos1 : Pos} {kk : Nat} {f : Int} {tf : Tok} {Q : Flow → Shared → Prop} (S : LSt prog w p g b0 L σ m cm s.heap s.gens) (B : Bg K mg mb p v L fQ cQ g) (hb0 : b0.get? L = none) (hfr : A.frames = some [envL L]) (hm : m "faults" = some (.int f tf))
    (hbody : ∀ Q1 E1, Flies (hideAll s.heap [L]) [envL L] E1 s → wpAny (model prog w) A (exec b (envL L)) Q1 E1 s)
    (h : ∀ h' k t, LSt prog w p g b0 L σ (fun y => if y = "faults" then some (.int (f + 1) t) else m y) cm h' s.gens → Heap.ExtBut L s.heap h' → Q .next { s with heap := h', toks := k }) :
    wpAny (model prog w) A (exec (.Try [b] [.ExceptHandler (some (.Name "ValueError" np)) none [.AugAssign (.Name "faults" p1) .Add (.Constant (.int 1) kk p2) p3] pos1] [] [] pos) (envL L)) Q E s := by
  refine wpAny_Try_except (wpAny_execs_cons (hbody _ _ fun e t h' k fl up => ?_))
  refine wpAny_looks_onW hfr rfl fl fun h₄ held₄ up₄ => ?_
  refine wpAny_landsW held₄ fun h₅ fl₅ up₅ => ?_
  have S₅ : LSt prog w p g b0 L σ m cm h₅ s.gens := S.caught B hb0 fl₅.1 (up.trans (up₄.trans up₅))
  obtain ⟨ob, hob, hobc⟩ := fl₅.there
  refine wpAny_handleBy_builtin (X := "ValueError") (T := "ValueError") (b := true) PySem.F.isExc_ValueError PySem.F.notTuple_ValueError (by rw [isSubtype_type]; kernel_rfl) (nmB (B.G.keeps S₅.C.keep) (B.G.free _ (by decide)) (by boot_fast) ⟨rfl, ⟨ob, hob, hobc⟩, ?_⟩)
  show wpAny _ _ _ _ _ _
  refine lands_againW fl₅ fun h₆ fl₆ up₆ => ?_
  have S₆ : LSt prog w p g b0 L σ m cm h₆ s.gens := S.caught B hb0 fl₆.1 (up.trans (up₄.trans (up₅.trans up₆)))
  refine wpAny_execs_cons (wpAny_AugAssign_Name ?_)
  refine wpAny_loadName_local rfl rfl S₆.F.ns hm ?_
  refine wpAny_Constant_int ?_
  refine PyProof.Rows.iadd_int ?_
  refine wpAny_storeName_local rfl S₆.F.ns (fun h' hn hs => wpAny_execs_nil (h h' _ _ ⟨S₆.F.set hn hs, S₆.X.sameBut hs (Nat.le_refl _), S₆.C.local B.fL S₆.F.ns hs, S₆.gens⟩ fun b o hb e => hs.extBut b o hb (fl₆.1 b o (hideAll_get _ e (by simpa using hb))))) (by rfl)


/-- f(x1, x2, exponent, x4, flag, stretch) -/
theorem ev_crypt {f x1 x2 x4 : Str} {fa : Addr} {pf p1 p2 p3 p4 p5 p6 pos : Pos} {v1 v2 v4 : Value} {te : Tok} {Q : Value → Shared → Prop} (S : LSt prog w p g b0 L σ m cm s.heap s.gens) (B : Bg K mg mb p v L fQ cQ g) (Kc : Cm v p cm) (N : Nm v p fQ m) (hf : mg f = some (.ref fa)) (hfa : FnAt fa s.heap)
    (h1 : m x1 = some v1) (h2 : m x2 = some v2) (h4 : m x4 = some v4) (he : cm "exponent" = some (.int (v.e : Int) te)) (h : wpAny (model prog w) A (call (.ref fa) [v1, v2, .int (v.e : Int) te, v4, .bool v.flag, .ref p.fS]) Q E s)
    (kf : (envL L).kindOf f = some .globalImplicit := by rfl) (k1 : (envL L).kindOf x1 = some .local := by rfl) (k2 : (envL L).kindOf x2 = some .local := by rfl) (k4 : (envL L).kindOf x4 = some .local := by rfl)
    (df : (f == ("__debug__" : Str)) = false := by decide) (d1 : (x1 == ("__debug__" : Str)) = false := by decide) (d2 : (x2 == ("__debug__" : Str)) = false := by decide) (d4 : (x4 == ("__debug__" : Str)) = false := by decide) :
    wpAny (model prog w) A (eval (.Call (.Name f pf) [.Name x1 p1, .Name x2 p2, .Name "exponent" p3, .Name x4 p4, .Name "flag" p5, .Name "stretch" p6] [] pos) (envL L)) Q E s := by
  have G := B.G.keeps S.C.keep
  walk_at "mw"
  refine nmG G hf (callWith_F hfa ?_) rfl rfl kf df
  walk_at "mw"
  refine nmL S.F h1 ?_ rfl k1 d1
  walk_at "mw"
  refine nmL S.F h2 ?_ rfl k2 d2
  walk_at "mw"
  refine nmX S.X he ?_
  walk_at "mw"
  refine nmL S.F h4 ?_ rfl k4 d4
  walk_at "mw"
  refine nmX S.X Kc.flag ?_
  walk_at "mw"
  exact nmL S.F N.stretch (wpAny_items_nil ⟨hfa, h⟩)

/-- a list of numbers mixed into octets -/
theorem ev_mixed {pf pl ph pos : Pos} {es : List PySem.Expr} {rs : List Nat} {Q : Value → Shared → Prop} (S : LSt prog w p g b0 L σ m cm s.heap s.gens) (B : Bg K mg mb p v L fQ cQ g) (Kc : Cm v p cm) (hroom : A.depth < recursionLimit) (hh : A.handled = none) (hr : ∀ r ∈ rs, r < 256 ^ v.n) (hz : rs.length ≤ 10)
    (hes : ∀ (Q' : List Value → Shared → Prop), (∀ vs k, IntsAre vs (rs.map fun r : Nat => (r : Int)) → Q' vs { s with toks := k }) → wpAny (model prog w) A (spliced (backTo pl (starEach es (envL L)))) Q' E s)
    (h : ∀ h' t k, Kp s.heap h' → Q (.bytes (enc v.n (xorAll rs)).toArray t) { s with heap := h', toks := k }) :
    wpAny (model prog w) A (eval (.Call (.Name "_law_mixed" pf) [.List es pl, .Name "half" ph] [] pos) (envL L)) Q E s := by
  have G := B.G.keeps S.C.keep
  obtain ⟨th, hth⟩ := Kc.half
  walk_at "mw"
  refine nmG G G.n_lm (callWith_F G.f_lm.at ?_)
  walk_at "mw"
  refine wpAny_List (hes _ fun vs kx hvs => ?_)
  have hl : vs.length = rs.length := by rw [hvs.length, List.length_map]
  refine ⟨by rw [sizeLine_eq]; omega, ?_⟩
  dsimp only
  generalize hH2 : (s.heap.push { cls := .type "list", data := .seq vs.toArray }) = h₂
  have K₂ : Kp s.heap h₂ := fun b o e => hH2 ▸ Heap.get?_push_of_some _ e
  have hl₂ : h₂.IsList s.heap.objs.size vs.toArray := hH2 ▸ ⟨_, Heap.get?_push_size _ rfl, rfl, _, rfl⟩
  have S₂ := S.kp K₂
  have G₂ := G.keeps K₂
  walk_at "mw"
  refine nmX S₂.X hth (wpAny_items_nil ⟨G₂.f_lm.at, ?_⟩)
  refine law_mixed_call (n := v.n) G₂ hroom hh hl₂ hvs hr B.vo.n16 fun h₃ t₃ k₃ K₃ => ?_
  exact h h₃ t₃ k₃ fun b o e => K₃ _ _ (K₂ _ _ e)

/-- are two octet strings the same? -/
theorem ev_same {x1 x2 : Str} {pf p1 p2 pos : Pos} {b1 b2 : List UInt8} {t1 t2 : Tok} {Q : Value → Shared → Prop} (S : LSt prog w p g b0 L σ m cm s.heap s.gens) (B : Bg K mg mb p v L fQ cQ g) (hroom : A.depth < recursionLimit) (h1 : m x1 = some (.bytes b1.toArray t1)) (h2 : m x2 = some (.bytes b2.toArray t2))
    (h : ∀ h' k, Kp s.heap h' → Q (.bool (b1 == b2)) { s with heap := h', toks := k })
    (k1 : (envL L).kindOf x1 = some .local := by rfl) (k2 : (envL L).kindOf x2 = some .local := by rfl) (d1 : (x1 == ("__debug__" : Str)) = false := by decide) (d2 : (x2 == ("__debug__" : Str)) = false := by decide) :
    wpAny (model prog w) A (eval (.Call (.Name "_law_same" pf) [.Name x1 p1, .Name x2 p2] [] pos) (envL L)) Q E s := by
  have G := B.G.keeps S.C.keep
  walk_at "mw"
  refine nmG G G.n_ls (callWith_F G.f_ls.at ?_)
  walk_at "mw"
  refine nmL S.F h1 ?_ rfl k1 d1
  walk_at "mw"
  refine nmL S.F h2 (wpAny_items_nil ⟨G.f_ls.at, ?_⟩) rfl k2 d2
  exact law_same_call (b := b1.toArray) (c := b2.toArray) G hroom fun h' k K => h h' k K
/-- the same, where the first is made on the spot -/
theorem ev_sameE {e1 : PySem.Expr} {x2 : Str} {pf p2 pos : Pos} {b1 b2 : List UInt8} {t2 : Tok} {Q : Value → Shared → Prop} (G : Gl mg mb s.heap)
    (h1 : ∀ Q' : Value → Shared → Prop, (∀ s' t, Gl mg mb s'.heap → (∀ Q'', Q'' (.bytes b2.toArray t2) s' → wpAny (model prog w) A (eval (.Name x2 p2) (envL L)) Q'' E s') → (∀ h' k, Kp s'.heap h' → Q (.bool (b1 == b2)) { s' with heap := h', toks := k }) → Q' (.bytes b1.toArray t) s') → wpAny (model prog w) A (eval e1 (envL L)) Q' E s) (hroom : A.depth < recursionLimit)
    (he : starEach (e1 :: [PySem.Expr.Name x2 p2]) (envL L) = (false, eval e1 (envL L)) :: starEach [PySem.Expr.Name x2 p2] (envL L) := by rfl) :
    wpAny (model prog w) A (eval (.Call (.Name "_law_same" pf) [e1, .Name x2 p2] [] pos) (envL L)) Q E s := by
  walk_at "mw"
  refine nmG G G.n_ls (callWith_F (e := e1) G.f_ls.at ?_ he)
  refine wpAny_items_cons (h1 _ fun s' t G' hx hq => ?_) he
  walk_at "mw"
  refine hx _ (wpAny_items_nil ⟨G'.f_ls.at, ?_⟩)
  exact law_same_call (b := b1.toArray) (c := b2.toArray) G' hroom hq
end
end

section
set_option linter.unusedVariables false
set_option maxRecDepth 8000
section
variable {prog : Program} {w : World} {A : Around} {E : Value → Shared → Prop} {s : Shared} {L fQ cQ : Addr} {b0 : Heap} {m cm mg mb : Str → Option Value} {p : Pm} {g : Heap} {σ σ' : Sig} {v : Vl} {K : Frag}



/-- the rest of law's body -/
abbrev rest (i : Nat) : List Stmt := (bodOf (stm 23)).drop i

theorem law_len {pf p1 pos : Pos} {Q : Value → Shared → Prop} (S : LSt prog w p g b0 L σ m cm s.heap s.gens) (B : Bg K mg mb p v L fQ cQ g) (Kc : Cm v p cm) (hz : σ.asked.length ≤ 900) (h : ∀ k t, Q (.int (σ.asked.length : Int) t) { s with toks := k }) :
    wpAny (model prog w) A (eval (.Call (.Name "len" pf) [.Name "asked" p1] [] pos) (envL L)) Q E s := by
  have G := B.G.keeps S.C.keep
  obtain ⟨vs, hl, ha⟩ := id S.C.asked
  walk_at "mw"
  refine nmB G (B.G.free _ (by decide)) (by boot_fast) ?_
  walk_at "mw"
  walk_at "mw"
  refine nmX S.X Kc.asked (wpAny_items_nil (Calls.call_len_list hl.isList (by rw [List.size_toArray, ha.length]; omega) ?_))
  rw [List.size_toArray, ha.length]
  exact h _ _

theorem LSt.iter {h h' : Heap} {gs : Array GenState} {I : Addr} {o : Obj} {vs : Array Value} (S : LSt prog w p g b0 L σ m cm h gs) (fI : Frsh p g I) (hL : I ≠ L) (hc : ∀ n c, (ownL L).lookup n = some c → I ≠ c) (hb : b0.get? I = none) (ho : h.get? I = some o) (hd : o.data = .fields vs) (hcl : o.cls ≠ .type "code") (e : Heap.ExtBut I h h') : LSt prog w p g b0 L σ m cm h' gs where
  F := ⟨S.F.ns.extBut e (Ne.symm hL), fun b o q => e _ _ (fun z => by rw [z, hb] at q; cases q) (S.F.keep _ _ q), S.F.above⟩
  X := ⟨fun n c q => let ⟨o, ho, hd⟩ := S.X.cell n c q; ⟨o, e _ _ (Ne.symm (hc n c q)) ho, hd⟩, S.X.apart, S.X.above⟩
  C := S.C.ext e fI.g fI.a fI.t fI.x fI.c ⟨o, ho, .inr ⟨⟨vs, hd⟩, hcl⟩⟩
  gens := S.gens

set_option maxHeartbeats 4000000 in
theorem law31 {Q : Flow → Shared → Prop} (S : LSt prog w p g b0 L σ m cm s.heap s.gens) (B : Bg K mg mb p v L fQ cQ g) (N : Nm v p fQ m) (Kc : Cm v p cm) (hb0 : b0.get? L = none) (hfr : A.frames = some [envL L]) (hroom : A.depth + 200 < recursionLimit) (hun : A.units + 200 < cLine) (hh : A.handled = none) (hza : σ.asked.length ≤ 900)
    (hQ : ∀ h' k gs m', AllBare gs → Fr b0 L h' m' → XT h' → (∃ ps, h'.get? 143 = some (tabObj ps)) → Q (.ret (.bool true)) { s with heap := h', toks := k, gens := gs }) :
    wpAny (model prog w) A (execs (rest 31) (envL L)) Q E s := by
  refine wpAny_execs_cons ?_
  walk_at "mw"
  refine law_len S B Kc hza fun k t => ?_
  refine stLw (s := { s with toks := k }) S B fun h₁ S₁ _ => ?_
  have N₁ := N.set (x := "past") (u := .int (σ.asked.length : Int) t)
  refine wpAny_execs_cons ?_
  walk_at "mw"
  walk_at "mw"
  refine stLw (S₁) B fun h₂ S₂ _ => ?_
  have N₂ := N₁.set (x := "faults") (u := .int 0 (k + 1))
  dsimp only at S₂ ⊢
  have hs1 : v.secret.length = 2 * v.n := by simp [Vl.secret, enc_length]; omega
  have hw1 : v.wanted.length = 2 * v.n := by simp [Vl.wanted, enc_length]; omega
  have hn16 := B.vo.n16
  obtain ⟨te, he⟩ := Kc.exponent
  obtain ⟨tse, hse⟩ := N₂.secret
  obtain ⟨twa, hwa⟩ := N₂.wanted
  refine wpAny_execs_cons (For_inv (n := 2) (fun I i s' => ∃ h' k m' T t0 t1, s' = { s with heap := h', toks := k } ∧ LSt prog w p g b0 L σ m' cm h' s.gens ∧ Nm v p fQ m' ∧ (∃ t, m' "faults" = some (.int (4 * (i : Int)) t)) ∧ (∃ t, m' "past" = some (.int (σ.asked.length : Int) t)) ∧
      h'.IsTupleIter I T i ∧ h'.IsTuple T [Value.bytes (v.secret ++ [7]).toArray t0, .bytes (v.wanted ++ v.secret ++ [0]).toArray t1].toArray ∧ T ≠ L ∧ T ≠ I ∧ Frsh p g I ∧ I ≠ L ∧ (∀ n c, (ownL L).lookup n = some c → I ≠ c) ∧ b0.get? I = none) ?_ (fun I i s' hi' hJ => ?_) fun I s' hJ => ?_)
  · refine wpAny_Tuple ?_
    walk_at "mw"
    walk_at "mw"
    refine nmL S₂.F hse (Constant_bytes (KBy.add_bytes (by simp; omega) fun t₃ k₃ => ?_))
    walk_at "mw"
    walk_at "mw"
    walk_at "mw"
    refine nmL S₂.F hwa (nmL S₂.F hse (KBy.add_bytes (by simp; omega) fun t₄ k₄ => ?_))
    refine Constant_bytes (KBy.add_bytes (by simp; omega) fun t₅ k₅ => wpAny_items_nil ⟨by rw [sizeLine_eq]; simp, ?_⟩)
    have e1 : v.secret.toArray ++ ([7] : List UInt8).toArray = (v.secret ++ [7]).toArray := by simp
    have e2 : v.wanted.toArray ++ v.secret.toArray ++ ([0] : List UInt8).toArray = (v.wanted ++ v.secret ++ [0]).toArray := by simp
    rw [e1, e2]
    dsimp only
    generalize hH3 : (h₂.push { cls := .type "tuple", data := .seq [Value.bytes (v.secret ++ [7]).toArray t₃, .bytes (v.wanted ++ v.secret ++ [0]).toArray t₅].toArray }) = h₃
    have K₃ : Kp h₂ h₃ := fun b o e => hH3 ▸ Heap.get?_push_of_some _ e
    have hT₃ : h₃.IsTuple h₂.objs.size [Value.bytes (v.secret ++ [7]).toArray t₃, .bytes (v.wanted ++ v.secret ++ [0]).toArray t₅].toArray := hH3 ▸ ⟨_, Heap.get?_push_size _ rfl, rfl, _, rfl⟩
    have S₃ := S₂.kp K₃
    refine wpAny_pyIter_tuple hT₃ ?_
    generalize hH4 : (h₃.push { cls := .type "tuple_iterator", data := .fields #[.ref h₂.objs.size, .int 0 0] }) = h₄
    have K₄ : Kp h₃ h₄ := fun b o e => hH4 ▸ Heap.get?_push_of_some _ e
    have fI : h₃.get? h₃.objs.size = none := by
      cases q : h₃.get? h₃.objs.size with
      | none => rfl
      | some o => exact absurd (Heap.lt_size q) (Nat.lt_irrefl _)
    have fT : h₂.get? h₂.objs.size = none := by
      cases q : h₂.get? h₂.objs.size with
      | none => rfl
      | some o => exact absurd (Heap.lt_size q) (Nat.lt_irrefl _)
    refine ⟨_, rfl, h₄, k₅, _, h₂.objs.size, t₃, t₅, rfl, S₃.kp K₄, N₂, ⟨_, rfl⟩, ⟨_, rfl⟩, hH4 ▸ ⟨_, Heap.get?_push_size _ rfl, rfl, rfl⟩, ?_, (S₂.new fT).2.1, ?_, S₃.C.frsh (Nat.le_refl _), (S₃.new fI).2.1, (S₃.new fI).2.2, ?_⟩
    · obtain ⟨o, ho, r⟩ := hT₃
      exact ⟨o, K₄ _ _ ho, r⟩
    · intro q
      obtain ⟨o, ho, _⟩ := hT₃
      rw [q, fI] at ho
      cases ho
    · cases q : b0.get? h₃.objs.size with
      | none => rfl
      | some o => have := S₃.F.keep _ _ q; rw [fI] at this; cases this
  · obtain ⟨h₃, k₃, m', T, t0, t1, rfl, S₃, N₃, ⟨tf, hfa⟩, ⟨tp, hpa⟩, it, hT, hTL, hTI, fI, hIL, hIc, hIb⟩ := hJ
    obtain ⟨b, tb, hb, hodd, hbl⟩ : ∃ b tb, [Value.bytes (v.secret ++ [7]).toArray t0, .bytes (v.wanted ++ v.secret ++ [0]).toArray t1].toArray[i]? = some (Value.bytes (b : List UInt8).toArray tb) ∧ b.length % 2 = 1 ∧ b.length ≤ 1000 := by
      rcases i with _ | _ | i
      · exact ⟨v.secret ++ [7], t0, rfl, by simp; omega, by simp; omega⟩
      · exact ⟨v.wanted ++ v.secret ++ [0], t1, rfl, by simp; omega, by simp; omega⟩
      · omega
    refine wpAny_pyNext_tuple_item it hT hb fun h₄ it₄ D₄ => ?_
    obtain ⟨oI, hoI, hcI, hdI⟩ := id it
    have S₄ := S₃.iter fI hIL hIc hIb hoI hdI (by rw [hcI]; simp) D₄.extBut
    have hT₄ : h₄.IsTuple T _ := let ⟨o, ho, r⟩ := hT; ⟨o, D₄.extBut _ _ hTI ho, r⟩
    dsimp only
    refine wpAny_assign_Name (stLw S₄ B fun h₅ S₅ D₅ => ?_)
    have N₅ := N₃.set (x := "extra") (u := .bytes b.toArray tb)
    have it₅ : h₅.IsTupleIter I T (i + 1) := let ⟨o, ho, r⟩ := it₄; ⟨o, D₅.extBut _ _ hIL ho, r⟩
    have hT₅ : h₅.IsTuple T _ := let ⟨o, ho, r⟩ := hT₄; ⟨o, D₅.extBut _ _ hTL ho, r⟩
    dsimp only at S₅ ⊢
    -- the first try
    have G₅ := B.G.keeps S₅.C.keep
    obtain ⟨tm5, hm5⟩ := N₅.mine
    obtain ⟨ti5, hi5⟩ := N₅.identifier
    refine wpAny_execs_cons (try_odd S₅ B hb0 hfr hfa (fun Q1 E1 fl => wpAny_Expr (ev_crypt (x1 := "extra") S₅ B Kc N₅ B.G.n_enc G₅.f_enc.at rfl hm5 hi5 he (encrypt_odd G₅ (S₅.below hfr) (by walk_at "dp") hh hodd hbl fl))) fun h₆ k₆ t₆ S₆ D₆ => ?_)
    have N₆ := N₅.set (x := "faults") (u := .int (4 * (i : Int) + 1) t₆)
    have it₆ : h₆.IsTupleIter I T (i + 1) := let ⟨o, ho, r⟩ := it₅; ⟨o, D₆ _ _ hIL ho, r⟩
    have hT₆ : h₆.IsTuple T _ := let ⟨o, ho, r⟩ := hT₅; ⟨o, D₆ _ _ hTL ho, r⟩
    dsimp only
    -- the second
    have G₆ := B.G.keeps S₆.C.keep
    obtain ⟨tm6, hm6⟩ := N₆.yours
    obtain ⟨ti6, hi6⟩ := N₆.identifier
    refine wpAny_execs_cons (try_odd S₆ B hb0 hfr rfl (fun Q1 E1 fl => wpAny_Expr (ev_crypt (x1 := "extra") S₆ B Kc N₆ B.G.n_dc G₆.f_dec.at rfl hm6 hi6 he (decrypt_odd G₆ (S₆.below hfr) (by walk_at "dp") hh hodd hbl fl))) fun h₇ k₇ t₇ S₇ D₇ => ?_)
    have N₇ := N₆.set (x := "faults") (u := .int (4 * (i : Int) + 1 + 1) t₇)
    have it₇ : h₇.IsTupleIter I T (i + 1) := let ⟨o, ho, r⟩ := it₆; ⟨o, D₇ _ _ hIL ho, r⟩
    have hT₇ : h₇.IsTuple T _ := let ⟨o, ho, r⟩ := hT₆; ⟨o, D₇ _ _ hTL ho, r⟩
    dsimp only
    -- the third
    have G₇ := B.G.keeps S₇.C.keep
    obtain ⟨tm7, hm7⟩ := N₇.mine
    obtain ⟨ti7, hi7⟩ := N₇.identifier
    refine wpAny_execs_cons (try_odd S₇ B hb0 hfr rfl (fun Q1 E1 fl => ?_) fun h₈ k₈ t₈ S₈ D₈ => ?_)
    · refine wpAny_Expr (MethodCall_ (nmG G₇ B.M.n_c (meth_from B.M S₇.C.keep fun q hq Kq eq => ?_)))
      have Sq := S₇.kp Kq
      have Gq := G₇.keeps Kq
      have Mq := B.M.keeps Sq.C.keep
      refine callWith_Mr (self := .ref 104) Mq.kf.fn91 ?_
      walk_at "mw"
      refine nmL Sq.F rfl ?_
      walk_at "mw"
      refine nmL Sq.F hm7 ?_
      walk_at "mw"
      refine nmL Sq.F hi7 ?_
      walk_at "mw"
      refine nmX Sq.X Kc.flag ?_
      walk_at "mw"
      refine nmX Sq.X he ?_
      walk_at "mw"
      refine nmL Sq.F N₇.stretch (wpAny_items_nil ⟨⟨eq, Mq.k⟩, ?_⟩)
      have fl' := fl.kp (k₁ := k₇ + 1) Kq
      refine from_master_odd Gq Mq eq ?_ (by walk_at "dp") hh hodd hbl fl'
      exact ⟨hfr, fun b o e => Kq _ _ (of_hideAll _ e), funFrames_base (fun b o e => e) ((S₇.below hfr).frames.of_keeps fun b o e _ => ⟨o, Kq _ _ e, rfl⟩)⟩
    have N₈ := N₇.set (x := "faults") (u := .int (4 * (i : Int) + 1 + 1 + 1) t₈)
    have it₈ : h₈.IsTupleIter I T (i + 1) := let ⟨o, ho, r⟩ := it₇; ⟨o, D₈ _ _ hIL ho, r⟩
    have hT₈ : h₈.IsTuple T _ := let ⟨o, ho, r⟩ := hT₇; ⟨o, D₈ _ _ hTL ho, r⟩
    dsimp only
    -- the fourth
    have G₈ := B.G.keeps S₈.C.keep
    obtain ⟨tm8, hm8⟩ := N₈.yours
    obtain ⟨ti8, hi8⟩ := N₈.identifier
    refine wpAny_execs_cons (try_odd S₈ B hb0 hfr rfl (fun Q1 E1 fl => ?_) fun h₉ k₉ t₉ S₉ D₉ => ?_)
    · refine wpAny_Expr (MethodCall_ ?_)
      have M₈ := B.M.keeps S₈.C.keep
      walk_at "mw"
      refine nmG G₈ B.M.n_c (callWith_K M₈.k M₈.kf.kcls ?_)
      walk_at "mw"
      refine nmL S₈.F hi8 ?_
      walk_at "mw"
      refine nmX S₈.X Kc.flag ?_
      walk_at "mw"
      refine nmX S₈.X he ?_
      walk_at "mw"
      refine nmL S₈.F rfl (wpAny_items_nil ⟨M₈.k, ?_⟩)
      refine make_call B.M S₈.C.keep G₈.lim (by walk_at "dp") fun r hq kq Kq Iq => ?_
      have Sq := S₈.kp Kq
      have Gq := G₈.keeps Kq
      have Mq := B.M.keeps Sq.C.keep
      refine meth_decrypt B.M Sq.C.keep Iq.of ?_
      refine callWith_F Mq.m_d.at ?_
      walk_at "mw"
      refine nmL Sq.F hm8 ?_
      walk_at "mw"
      refine nmL Sq.F N₈.stretch (wpAny_items_nil ⟨Mq.m_d.at, ?_⟩)
      have fl' := fl.kp (k₁ := kq) Kq
      refine dec_m_odd Gq Mq Iq.of rfl rfl rfl ?_ (by walk_at "dp") hh hodd hbl fl'
      exact ⟨hfr, fun b o e => Kq _ _ (of_hideAll _ e), funFrames_base (fun b o e => e) ((S₈.below hfr).frames.of_keeps fun b o e _ => ⟨o, Kq _ _ e, rfl⟩)⟩
    have N₉ := N₈.set (x := "faults") (u := .int (4 * (i : Int) + 1 + 1 + 1 + 1) t₉)
    have it₉ : h₉.IsTupleIter I T (i + 1) := let ⟨o, ho, r⟩ := it₈; ⟨o, D₉ _ _ hIL ho, r⟩
    have hT₉ : h₉.IsTuple T _ := let ⟨o, ho, r⟩ := hT₈; ⟨o, D₉ _ _ hTL ho, r⟩
    dsimp only
    refine wpAny_execs_nil ?_
    refine ⟨h₉, k₉, _, T, t0, t1, rfl, S₉, N₉, ⟨t₉, ?_⟩, ⟨tp, hpa⟩, it₉, hT₉, hTL, hTI, fI, hIL, hIc, hIb⟩
    exact congrArg (fun z => some (Value.int z t₉)) (by walk_at "dp")
  · obtain ⟨h₃, k₃, m', T, t0, t1, rfl, S₃, N₃, ⟨tf, hfa⟩, ⟨tp, hpa⟩, it, hT, hTL, hTI, fI, hIL, hIc, hIb⟩ := hJ
    refine wpAny_pyNext_tuple_end hh it hT (by simp) fun h₄ D₄ => ?_
    obtain ⟨oI, hoI, hcI, hdI⟩ := id it
    have S₄ := S₃.iter fI hIL hIc hIb hoI hdI (by rw [hcI]; simp) D₄
    dsimp only
    refine wpAny_execs_cons ?_
    walk_at "mw"
    refine wpAny_And2 ?_
    walk_at "mw"
    refine nmL S₄.F hfa ?_
    walk_at "mw"
    refine eq_int (wpAny_truthy_bool ?_)
    rw [if_pos (by simp)]
    walk_at "mw"
    refine law_len S₄ B Kc hza fun k t => ?_
    refine nmL S₄.F hpa (eq_int ?_)
    rw [show ((σ.asked.length : Int) == (σ.asked.length : Int)) = true by simp]
    exact hQ h₄ _ s.gens m' S₄.gens S₄.F S₄.C.xt (let ⟨ps, e⟩ := B.t143; ⟨ps, S₄.C.keep _ _ e⟩)
end
end

section
set_option linter.unusedVariables false
set_option maxRecDepth 8000
section
variable {prog : Program} {w : World} {A : Around} {E : Value → Shared → Prop} {s : Shared} {L fQ cQ : Addr} {b0 : Heap} {m cm mg mb : Str → Option Value} {p : Pm} {g : Heap} {σ σ' : Sig} {v : Vl} {K : Frag}



theorem law_encrypt {x1 x2 x4 : Str} {pf p1 p2 p3 p4 p5 p6 pos : Pos} {ms pw : List UInt8} {id : Nat} {t1 t2 t4 : Tok} {Q : Value → Shared → Prop} (S : LSt prog w p g b0 L σ m cm s.heap s.gens) (B : Bg K mg mb p v L fQ cQ g) (Kc : Cm v p cm) (N : Nm v p fQ m) (hbD : ∀ a ∈ p.D, b0.get? a = none)
    (h1 : m x1 = some (.bytes ms.toArray t1)) (h2 : m x2 = some (.bytes pw.toArray t2)) (h4 : m x4 = some (.int (id : Int) t4)) (hms : ms.length = 2 * p.n) (hpw : pw.length ≤ 900) (hid : id < 65536)
    (hroom : A.depth + 200 < recursionLimit) (hun : A.units + 200 < cLine) (hh : A.handled = none) (hza : σ.asked.length ≤ 900) (hzt : σ.table.length ≤ 900) (hw : σ.Wf p.n)
    (h : ∀ x h' t k gs, x = rounds p pw v.e (saltOf v.flag id) ⟨σ, ms.take p.n, ms.drop p.n⟩ [0, 1, 2, 3] → LSt prog w p g b0 L x.σ m cm h' gs → KpB p.D s.heap h' → Q (.bytes (x.r ++ x.l).toArray t) { s with heap := h', toks := k, gens := gs })
    (k1 : (envL L).kindOf x1 = some .local := by rfl) (k2 : (envL L).kindOf x2 = some .local := by rfl) (k4 : (envL L).kindOf x4 = some .local := by rfl)
    (d1 : (x1 == ("__debug__" : Str)) = false := by decide) (d2 : (x2 == ("__debug__" : Str)) = false := by decide) (d4 : (x4 == ("__debug__" : Str)) = false := by decide) :
    wpAny (model prog w) A (eval (.Call (.Name "encrypt" pf) [.Name x1 p1, .Name x2 p2, .Name "exponent" p3, .Name x4 p4, .Name "flag" p5, .Name "stretch" p6] [] pos) (envL L)) Q E s := by
  obtain ⟨te, he⟩ := Kc.exponent
  have e16 := B.vo.e16
  refine ev_crypt S B Kc N B.G.n_enc (B.G.keeps S.C.keep).f_enc.at h1 h2 h4 he (encrypt_call B.G B.P S.C S.gens (by walk_at "dp") (by walk_at "dp") hh hza hzt hw hms hpw (by walk_at "dp") hid fun x h' t k gs hx KB hg X => ?_) (by rfl) k1 k2 k4 (by decide) d1 d2 d4
  exact h x h' t k gs hx (S.kpb B KB X hg hbD) KB

theorem law_decrypt {x1 x2 x4 : Str} {pf p1 p2 p3 p4 p5 p6 pos : Pos} {ms pw : List UInt8} {id : Nat} {t1 t2 t4 : Tok} {Q : Value → Shared → Prop} (S : LSt prog w p g b0 L σ m cm s.heap s.gens) (B : Bg K mg mb p v L fQ cQ g) (Kc : Cm v p cm) (N : Nm v p fQ m) (hbD : ∀ a ∈ p.D, b0.get? a = none)
    (h1 : m x1 = some (.bytes ms.toArray t1)) (h2 : m x2 = some (.bytes pw.toArray t2)) (h4 : m x4 = some (.int (id : Int) t4)) (hms : ms.length = 2 * p.n) (hpw : pw.length ≤ 900) (hid : id < 65536)
    (hroom : A.depth + 200 < recursionLimit) (hun : A.units + 200 < cLine) (hh : A.handled = none) (hza : σ.asked.length ≤ 900) (hzt : σ.table.length ≤ 900) (hw : σ.Wf p.n)
    (h : ∀ x h' t k gs, x = rounds p pw v.e (saltOf v.flag id) ⟨σ, ms.take p.n, ms.drop p.n⟩ [3, 2, 1, 0] → LSt prog w p g b0 L x.σ m cm h' gs → KpB p.D s.heap h' → Q (.bytes (x.r ++ x.l).toArray t) { s with heap := h', toks := k, gens := gs })
    (k1 : (envL L).kindOf x1 = some .local := by rfl) (k2 : (envL L).kindOf x2 = some .local := by rfl) (k4 : (envL L).kindOf x4 = some .local := by rfl)
    (d1 : (x1 == ("__debug__" : Str)) = false := by decide) (d2 : (x2 == ("__debug__" : Str)) = false := by decide) (d4 : (x4 == ("__debug__" : Str)) = false := by decide) :
    wpAny (model prog w) A (eval (.Call (.Name "decrypt_cipher" pf) [.Name x1 p1, .Name x2 p2, .Name "exponent" p3, .Name x4 p4, .Name "flag" p5, .Name "stretch" p6] [] pos) (envL L)) Q E s := by
  obtain ⟨te, he⟩ := Kc.exponent
  have e16 := B.vo.e16
  refine ev_crypt S B Kc N B.G.n_dc (B.G.keeps S.C.keep).f_dec.at h1 h2 h4 he (decrypt_call B.G B.P S.C S.gens (by walk_at "dp") (by walk_at "dp") hh hza hzt hw hms hpw (by walk_at "dp") hid fun x h' t k gs hx KB hg X => ?_) (by rfl) k1 k2 k4 (by decide) d1 d2 d4
  exact h x h' t k gs hx (S.kpb B KB X hg hbD) KB

theorem cut_l (n a b : Nat) : (enc n a ++ enc n b).take n = enc n a := by
  rw [List.take_append_of_le_length (by simp [enc_length])]
  exact List.take_of_length_le (by simp [enc_length])
theorem cut_r (n a b : Nat) : (enc n a ++ enc n b).drop n = enc n b := by
  rw [List.drop_append_of_le_length (by simp [enc_length])]
  rw [List.drop_of_length_le (by simp [enc_length])]; rfl

theorem law_lenT {pf p1 pos : Pos} {Q : Value → Shared → Prop} (S : LSt prog w p g b0 L σ m cm s.heap s.gens) (B : Bg K mg mb p v L fQ cQ g) (Kc : Cm v p cm) (hz : σ.table.length ≤ 900) (h : ∀ k t, Q (.int (σ.table.length : Int) t) { s with toks := k }) :
    wpAny (model prog w) A (eval (.Call (.Name "len" pf) [.Name "table" p1] [] pos) (envL L)) Q E s := by
  have G := B.G.keeps S.C.keep
  obtain ⟨xs, hd, ha⟩ := id S.C.table
  have hl := ha.length
  walk_at "mw"
  refine nmB G (B.G.free _ (by decide)) (by boot_fast) ?_
  walk_at "mw"
  walk_at "mw"
  refine nmX S.X Kc.table (wpAny_items_nil (len_dictH B.P.sys hd (by walk_at "dp") fun t k => ?_))
  rw [hl]
  exact h _ _

/-- what the table knows of the first chain -/
def Vl.S (v : Vl) : List UInt8 := saltOf v.flag v.ident
def Vl.y2 (v : Vl) : Nat := v.left ^^^ v.ri 0
def Vl.y3 (v : Vl) : Nat := v.right ^^^ v.ri 1
def Vl.a2 (v : Vl) : Nat := v.left ^^^ v.ri 0 ^^^ v.lower
def Vl.a3 (v : Vl) : Nat := v.right ^^^ v.ri 1 ^^^ v.upper
def KnowsMine (p : Pm) (v : Vl) (t : List (QK × List UInt8)) : Prop := Knows p v.mine v.e v.S t v.right v.y2 v.y3 v.lower (v.ri 0) (v.ri 1) v.a2 v.a3

theorem ans_at {v : Vl} {p : Pm} (o : v.Ok) (pa : p.ans = v.ans) {i : Nat} (h1 : 4 ≤ i) (h2 : i < 12) : ansAt p i = v.ri (i - 2) := by
  unfold ansAt
  rw [if_pos h2, pa]
  unfold Vl.ans Vl.ri
  have hl := o.len
  have h4 : (v.r.take 2 ++ [v.left ^^^ v.r.getD 0 0 ^^^ v.lower, v.right ^^^ v.r.getD 1 0 ^^^ v.upper]).length = 4 := by simp [hl]
  rw [List.getD, List.getElem?_append_right (by rw [h4]; exact h1), h4, List.getD, List.getElem?_drop]
  congr 2
  omega
theorem ans_0 {v : Vl} {p : Pm} (o : v.Ok) (pa : p.ans = v.ans) : ansAt p 0 = v.ri 0 ∧ ansAt p 1 = v.ri 1 ∧ ansAt p 2 = v.a2 ∧ ansAt p 3 = v.a3 := by
  unfold ansAt
  rw [pa]
  unfold Vl.ans Vl.ri Vl.a2 Vl.a3
  have hl := o.len
  obtain ⟨x0, x1, rest, e⟩ : ∃ x0 x1 rest, v.r = x0 :: x1 :: rest := by
    match h : v.r with
    | [] => rw [h] at hl; simp at hl
    | [_] => rw [h] at hl; simp at hl
    | a :: b :: c => exact ⟨a, b, c, rfl⟩
  simp [e, Vl.ri]
end
end

section
set_option linter.unusedVariables false
set_option maxRecDepth 8000
section
variable {prog : Program} {w : World} {A : Around} {E : Value → Shared → Prop} {s : Shared} {L fQ cQ : Addr} {b0 : Heap} {m cm mg mb : Str → Option Value} {p : Pm} {g : Heap} {σ σ' : Sig} {v : Vl} {K : Frag}



/-- four of the answers -/
theorem cut4 {va : List Value} {k : Nat} (hi : IntsAre va (p.ans.map fun r : Nat => (r : Int))) (hl : p.ans.length = 12) (hk : k + 4 ≤ 12) :
    ∃ t0 t1 t2 t3, cutOf va (some (k : Int)) (some ((k : Int) + 4)) = [.int ((ansAt p k : Nat) : Int) t0, .int ((ansAt p (k + 1) : Nat) : Int) t1, .int ((ansAt p (k + 2) : Nat) : Int) t2, .int ((ansAt p (k + 3) : Nat) : Int) t3] := by
  have hva : va.length = 12 := by rw [hi.length, List.length_map, hl]
  have at_ : ∀ i, i < 12 → ∃ t, va[i]? = some (.int ((ansAt p i : Nat) : Int) t) := fun i h => by
    obtain ⟨x, tx, e, hx⟩ := IntsAre.at hi i va[i] (List.getElem?_eq_getElem (by walk_at "dp"))
    rw [List.getElem?_map, List.getElem?_eq_getElem (by walk_at "dp")] at hx
    simp only [Option.map_some, Option.some.injEq] at hx
    refine ⟨tx, ?_⟩
    rw [List.getElem?_eq_getElem (by walk_at "dp"), e, ← hx]
    unfold ansAt
    rw [if_pos h, List.getD, List.getElem?_eq_getElem (by walk_at "dp")]; rfl
  have e : cutOf va (some (k : Int)) (some ((k : Int) + 4)) = (va.drop k).take 4 := by
    unfold cutOf
    simp only [Option.elim]
    rw [show ((k : Int) + 4) = ((k + 4 : Nat) : Int) by push_cast; rfl, clipAt_nat, clipAt_nat, hva, Nat.min_eq_left (by walk_at "dp"), Nat.min_eq_left (by walk_at "dp")]
    congr 1
    omega
  obtain ⟨t0, e0⟩ := at_ k (by walk_at "dp")
  obtain ⟨t1, e1⟩ := at_ (k + 1) (by walk_at "dp")
  obtain ⟨t2, e2⟩ := at_ (k + 2) (by walk_at "dp")
  obtain ⟨t3, e3⟩ := at_ (k + 3) (by walk_at "dp")
  refine ⟨t0, t1, t2, t3, ?_⟩
  rw [e]
  refine List.ext_getElem? fun i => ?_
  rw [List.getElem?_take, List.getElem?_drop]
  match i with
  | 0 => simpa using e0
  | 1 => simpa using e1
  | 2 => simpa using e2
  | 3 => simpa using e3
  | i + 4 => simp; omega

/-- items that tell numbers, wherever the heap stands -/
def Tells (prog : Program) (w : World) (A : Around) (E : Value → Shared → Prop) (p : Pm) (g b0 : Heap) (L : Addr) (σ : Sig) (m cm : Str → Option Value) (s : Shared) (pl : Pos) (es : List PySem.Expr) (rs : List Nat) : Prop :=
  ∀ s' : Shared, LSt prog w p g b0 L σ m cm s'.heap s'.gens → Kp s.heap s'.heap → ∀ Q' : List Value → Shared → Prop, (∀ vs k, IntsAre vs (rs.map fun r : Nat => (r : Int)) → Q' vs { s' with toks := k }) → wpAny (model prog w) A (spliced (backTo pl (starEach es (envL L)))) Q' E s'

theorem ev_questions {x1 x2 : Str} {pf p1 p2 pL pos q1 q2 q3 q4 r1 r2 r3 r4 u1 u2 u3 u4 z1 z2 z3 z4 : Pos} {es1 es2 es3 es4 : List PySem.Expr} {rs1 rs2 rs3 rs4 : List Nat} {pw : List UInt8} {id : Nat} {t1 t2 : Tok} {Q : Value → Shared → Prop} (S : LSt prog w p g b0 L σ m cm s.heap s.gens) (B : Bg K mg mb p v L fQ cQ g) (Kc : Cm v p cm) (N : Nm v p fQ m)
    (h1 : m x1 = some (.bytes pw.toArray t1)) (h2 : m x2 = some (.int (id : Int) t2)) (hpw : pw.length ≤ 900) (hid : id < 65536) (hroom : A.depth + 20 < recursionLimit) (hh : A.handled = none)
    (T1 : Tells prog w A E p g b0 L σ m cm s q1 es1 rs1) (T2 : Tells prog w A E p g b0 L σ m cm s q2 es2 rs2) (T3 : Tells prog w A E p g b0 L σ m cm s q3 es3 rs3) (T4 : Tells prog w A E p g b0 L σ m cm s q4 es4 rs4)
    (b1 : ∀ r ∈ rs1, r < 256 ^ v.n) (b2 : ∀ r ∈ rs2, r < 256 ^ v.n) (b3 : ∀ r ∈ rs3, r < 256 ^ v.n) (b4 : ∀ r ∈ rs4, r < 256 ^ v.n) (l1 : rs1.length ≤ 10) (l2 : rs2.length ≤ 10) (l3 : rs3.length ≤ 10) (l4 : rs4.length ≤ 10)
    (h : ∀ D h' k ys, s.heap.get? D = none → h'.PlainList D ys.toArray → All2 (IsTq prog w h') ys (cqs p pw v.e (saltOf v.flag id) (xorAll rs1) (xorAll rs2) (xorAll rs3) (xorAll rs4)) → Kp s.heap h' → Q (.ref D) { s with heap := h', toks := k })
    (k1 : (envL L).kindOf x1 = some .local := by rfl) (k2 : (envL L).kindOf x2 = some .local := by rfl) (d1 : (x1 == ("__debug__" : Str)) = false := by decide) (d2 : (x2 == ("__debug__" : Str)) = false := by decide) :
    wpAny (model prog w) A (eval (.Call (.Name "questions" pf) [.Name x1 p1, .Name x2 p2, .List [.Call (.Name "_law_mixed" u1) [.List es1 q1, .Name "half" z1] [] r1, .Call (.Name "_law_mixed" u2) [.List es2 q2, .Name "half" z2] [] r2, .Call (.Name "_law_mixed" u3) [.List es3 q3, .Name "half" z3] [] r3, .Call (.Name "_law_mixed" u4) [.List es4 q4, .Name "half" z4] [] r4] pL] [] pos) (envL L)) Q E s := by
  have G := B.G.keeps S.C.keep
  have Qf := B.q.keeps S.C.keep
  walk_at "mw"
  refine nmL S.F N.questions (callWith_F Qf.at ?_)
  walk_at "mw"
  refine nmL S.F h1 ?_ rfl k1 d1
  walk_at "mw"
  refine nmL S.F h2 ?_ rfl k2 d2
  walk_at "mw"
  refine wpAny_List ?_
  walk_at "mw"
  refine ev_mixed S B Kc (by walk_at "dp") hh b1 l1 (T1 s S fun _ _ e => e) fun g1 tk1 kk1 K1 => ?_
  have S1 := S.kp K1
  walk_at "mw"
  refine ev_mixed S1 B Kc (by walk_at "dp") hh b2 l2 (T2 { s with heap := g1, toks := kk1 } S1 K1) fun g2 tk2 kk2 K2' => ?_
  have K2 : Kp s.heap g2 := fun b o e => K2' _ _ (K1 _ _ e)
  have S2 := S.kp K2
  walk_at "mw"
  refine ev_mixed S2 B Kc (by walk_at "dp") hh b3 l3 (T3 { s with heap := g2, toks := kk2 } S2 K2) fun g3 tk3 kk3 K3' => ?_
  have K3 : Kp s.heap g3 := fun b o e => K3' _ _ (K2 _ _ e)
  have S3 := S.kp K3
  walk_at "mw"
  refine ev_mixed S3 B Kc (by walk_at "dp") hh b4 l4 (T4 { s with heap := g3, toks := kk3 } S3 K3) fun g4 tk4 kk4 K4' => ?_
  have K4 : Kp s.heap g4 := fun b o e => K4' _ _ (K3 _ _ e)
  refine wpAny_items_nil ⟨by rw [sizeLine_eq]; simp, wpAny_items_nil ?_⟩
  dsimp only
  generalize hH5 : (g4.push { cls := .type "list", data := .seq [Value.bytes (enc v.n (xorAll rs1)).toArray tk1, .bytes (enc v.n (xorAll rs2)).toArray tk2, .bytes (enc v.n (xorAll rs3)).toArray tk3, .bytes (enc v.n (xorAll rs4)).toArray tk4].toArray }) = g5
  have K5' : Kp g4 g5 := fun b o e => hH5 ▸ Heap.get?_push_of_some _ e
  have hl5 : g5.IsList g4.objs.size [Value.bytes (enc v.n (xorAll rs1)).toArray tk1, .bytes (enc v.n (xorAll rs2)).toArray tk2, .bytes (enc v.n (xorAll rs3)).toArray tk3, .bytes (enc v.n (xorAll rs4)).toArray tk4].toArray := hH5 ▸ ⟨_, Heap.get?_push_size _ rfl, rfl, _, rfl⟩
  have K5 : Kp s.heap g5 := fun b o e => K5' _ _ (K4 _ _ e)
  have S5 := S.kp K5
  have G5 := G.keeps K5
  have Q5 := Qf.keeps K5
  obtain ⟨te, he⟩ := Kc.exponent
  obtain ⟨th, hth⟩ := Kc.half
  have cE : g5.IsCell (L + 6) (some (.int (v.e : Int) te)) := he ▸ S5.X.cell "exponent" _ rfl
  have cF : g5.IsCell (L + 7) (some (.bool v.flag)) := Kc.flag ▸ S5.X.cell "flag" _ rfl
  have cH : g5.IsCell (L + 8) (some (.int (v.n : Int) th)) := hth ▸ S5.X.cell "half" _ rfl
  have e16 := B.vo.e16
  refine ⟨Q5.at, ?_⟩
  refine questions_call (rs := [enc v.n (xorAll rs1), enc v.n (xorAll rs2), enc v.n (xorAll rs3), enc v.n (xorAll rs4)]) G5 Q5 cE cF cH hl5 (.cons ⟨_, rfl⟩ (.cons ⟨_, rfl⟩ (.cons ⟨_, rfl⟩ (.cons ⟨_, rfl⟩ .nil)))) rfl (fun r hr => ?_) (by walk_at "dp") hh hid (by walk_at "dp") hpw B.vo.n16 fun D h' k ys hD hl ha hk => ?_
  · simp only [List.mem_cons, List.not_mem_nil, or_false] at hr
    rcases hr with rfl | rfl | rfl | rfl <;> exact enc_length _ _
  · refine h D h' k ys ?_ hl ?_ fun b o e => hk _ _ (K5 _ _ e)
    · cases q : s.heap.get? D with
      | none => rfl
      | some o => have := K5 _ _ q; rw [hD] at this; cases this
    · have e : (List.range 4).map (fun i => rq i pw v.e (saltOf v.flag id) ([enc v.n (xorAll rs1), enc v.n (xorAll rs2), enc v.n (xorAll rs3), enc v.n (xorAll rs4)].getD i [])) = cqs p pw v.e (saltOf v.flag id) (xorAll rs1) (xorAll rs2) (xorAll rs3) (xorAll rs4) := by
        simp [cqs, cq, List.range_succ, B.pn]
      rw [e] at ha
      exact ha

/-- is an octet string the same as two mixed ones? -/
theorem ev_sameM {x1 : Str} {pf p1 pb pos q1 q2 r1 r2 u1 u2 z1 z2 : Pos} {es1 es2 : List PySem.Expr} {rs1 rs2 : List Nat} {b1 : List UInt8} {t1 : Tok} {Q : Value → Shared → Prop} (S : LSt prog w p g b0 L σ m cm s.heap s.gens) (B : Bg K mg mb p v L fQ cQ g) (Kc : Cm v p cm)
    (h1 : m x1 = some (.bytes b1.toArray t1)) (hroom : A.depth + 20 < recursionLimit) (hh : A.handled = none)
    (T1 : Tells prog w A E p g b0 L σ m cm s q1 es1 rs1) (T2 : Tells prog w A E p g b0 L σ m cm s q2 es2 rs2)
    (c1 : ∀ r ∈ rs1, r < 256 ^ v.n) (c2 : ∀ r ∈ rs2, r < 256 ^ v.n) (l1 : rs1.length ≤ 10) (l2 : rs2.length ≤ 10)
    (h : ∀ h' k, Kp s.heap h' → Q (.bool (b1 == enc v.n (xorAll rs1) ++ enc v.n (xorAll rs2))) { s with heap := h', toks := k })
    (k1 : (envL L).kindOf x1 = some .local := by rfl) (d1 : (x1 == ("__debug__" : Str)) = false := by decide) :
    wpAny (model prog w) A (eval (.Call (.Name "_law_same" pf) [.Name x1 p1, .BinOp (.Call (.Name "_law_mixed" u1) [.List es1 q1, .Name "half" z1] [] r1) .Add (.Call (.Name "_law_mixed" u2) [.List es2 q2, .Name "half" z2] [] r2) pb] [] pos) (envL L)) Q E s := by
  have G := B.G.keeps S.C.keep
  have hn := B.vo.n16
  walk_at "mw"
  refine nmG G G.n_ls (callWith_F G.f_ls.at ?_)
  walk_at "mw"
  refine nmL S.F h1 ?_ rfl k1 d1
  walk_at "mw"
  walk_at "mw"
  refine ev_mixed S B Kc (by walk_at "dp") hh c1 l1 (T1 s S fun _ _ e => e) fun g1 tk1 kk1 K1 => ?_
  have S1 := S.kp K1
  refine ev_mixed S1 B Kc (by walk_at "dp") hh c2 l2 (T2 { s with heap := g1, toks := kk1 } S1 K1) fun g2 tk2 kk2 K2' => ?_
  have K2 : Kp s.heap g2 := fun b o e => K2' _ _ (K1 _ _ e)
  have G2 := G.keeps K2
  refine KBy.add_bytes (by simp [enc_length]; omega) fun t₃ k₃ => wpAny_items_nil ⟨G2.f_ls.at, ?_⟩
  have e : (enc v.n (xorAll rs1)).toArray ++ (enc v.n (xorAll rs2)).toArray = (enc v.n (xorAll rs1) ++ enc v.n (xorAll rs2)).toArray := by simp
  rw [e]
  exact law_same_call (b := b1.toArray) (c := (enc v.n (xorAll rs1) ++ enc v.n (xorAll rs2)).toArray) G2 (by walk_at "dp") fun h' k K => h h' k fun b o e => K _ _ (K2 _ _ e)

theorem tells1 {x1 : Str} {p1 pl : Pos} {a1 : Nat} (h1 : ∃ t, m x1 = some (.int (a1 : Int) t)) (k1 : (envL L).kindOf x1 = some .local := by rfl) (d1 : (x1 == ("__debug__" : Str)) = false := by decide) :
    Tells prog w A E p g b0 L σ m cm s pl [.Name x1 p1] [a1] := by
  intro s' S' _ Q' hQ'
  obtain ⟨t1, h1⟩ := h1
  walk_at "mw"
  exact nmL S'.F h1 (wpAny_items_nil (hQ' _ s'.toks (.cons _ _ .nil))) rfl k1 d1
theorem tells2 {x1 x2 : Str} {p1 p2 pl : Pos} {a1 a2 : Nat} (h1 : ∃ t, m x1 = some (.int (a1 : Int) t)) (h2 : ∃ t, m x2 = some (.int (a2 : Int) t)) (k1 : (envL L).kindOf x1 = some .local := by rfl) (k2 : (envL L).kindOf x2 = some .local := by rfl) (d1 : (x1 == ("__debug__" : Str)) = false := by decide) (d2 : (x2 == ("__debug__" : Str)) = false := by decide) :
    Tells prog w A E p g b0 L σ m cm s pl [.Name x1 p1, .Name x2 p2] [a1, a2] := by
  intro s' S' _ Q' hQ'
  obtain ⟨t1, h1⟩ := h1
  obtain ⟨t2, h2⟩ := h2
  walk_at "mw"
  refine nmL S'.F h1 ?_ rfl k1 d1
  walk_at "mw"
  exact nmL S'.F h2 (wpAny_items_nil (hQ' _ s'.toks (.cons _ _ (.cons _ _ .nil)))) rfl k2 d2
theorem tells3 {x1 x2 x3 : Str} {p1 p2 p3 pl : Pos} {a1 a2 a3 : Nat} (h1 : ∃ t, m x1 = some (.int (a1 : Int) t)) (h2 : ∃ t, m x2 = some (.int (a2 : Int) t)) (h3 : ∃ t, m x3 = some (.int (a3 : Int) t)) (k1 : (envL L).kindOf x1 = some .local := by rfl) (k2 : (envL L).kindOf x2 = some .local := by rfl) (k3 : (envL L).kindOf x3 = some .local := by rfl) (d1 : (x1 == ("__debug__" : Str)) = false := by decide) (d2 : (x2 == ("__debug__" : Str)) = false := by decide) (d3 : (x3 == ("__debug__" : Str)) = false := by decide) :
    Tells prog w A E p g b0 L σ m cm s pl [.Name x1 p1, .Name x2 p2, .Name x3 p3] [a1, a2, a3] := by
  intro s' S' _ Q' hQ'
  obtain ⟨t1, h1⟩ := h1
  obtain ⟨t2, h2⟩ := h2
  obtain ⟨t3, h3⟩ := h3
  walk_at "mw"
  refine nmL S'.F h1 ?_ rfl k1 d1
  walk_at "mw"
  refine nmL S'.F h2 ?_ rfl k2 d2
  walk_at "mw"
  exact nmL S'.F h3 (wpAny_items_nil (hQ' _ s'.toks (.cons _ _ (.cons _ _ (.cons _ _ .nil))))) rfl k3 d3
theorem xor1 (a : Nat) : xorAll [a] = a := by simp [xorAll]
theorem xor2 (a b : Nat) : xorAll [a, b] = a ^^^ b := by simp [xorAll]
theorem xor3 (a b c : Nat) : xorAll [a, b, c] = a ^^^ b ^^^ c := by simp [xorAll]
theorem all1 {n a : Nat} (h : a < n) : ∀ r ∈ [a], r < n := by simpa using h
theorem all2 {n a b : Nat} (h : a < n) (h2 : b < n) : ∀ r ∈ [a, b], r < n := by simp [h, h2]
theorem all3 {n a b c : Nat} (h : a < n) (h2 : b < n) (h3 : c < n) : ∀ r ∈ [a, b, c], r < n := by simp [h, h2, h3]
end
end

section
set_option linter.unusedVariables false
set_option maxRecDepth 8000
section
variable {prog : Program} {w : World} {A : Around} {E : Value → Shared → Prop} {s : Shared} {L fQ cQ : Addr} {b0 : Heap} {m cm mg mb : Str → Option Value} {p : Pm} {g : Heap} {σ σ' : Sig} {v : Vl} {K : Frag}



theorem ansAt_lt {g : Heap} (P : p.Ok g) (i : Nat) : ansAt p i < 256 ^ p.n := by
  unfold ansAt
  split
  · rename_i h12
    rw [List.getD, List.getElem?_eq_getElem (by rw [P.len]; exact h12)]
    exact P.lt _ (List.getElem_mem _)
  · exact Nat.pow_pos (by decide)

theorem enc_state {asked : List QK} {t : List (QK × List UInt8)} (σ : Sig) : (⟨σ.asked, σ.table⟩ : Sig) = σ := rfl

theorem askS_wf' {n : Nat} {pw S : List UInt8} {e : Nat} {is : List Nat} (hn : p.n = n) : ∀ {x : RS}, x.σ.Wf p.n → (rounds p pw e S x is).σ.Wf p.n := by
  induction is with
  | nil => exact fun h => h
  | cons i r ih => exact fun {x} h => ih (x := rstep p pw e S x i) (askS_wf h _)

set_option maxHeartbeats 4000000 in
theorem law29 {Q : Flow → Shared → Prop} (S : LSt prog w p g b0 L σ m cm s.heap s.gens) (B : Bg K mg mb p v L fQ cQ g) (N : Nm v p fQ m) (Kc : Cm v p cm) (hbD : ∀ a ∈ p.D, b0.get? a = none) (hb0 : b0.get? L = none) (hfr : A.frames = some [envL L]) (hroom : A.depth + 250 < recursionLimit) (hun : A.units + 250 < cLine) (hh : A.handled = none)
    (hza : σ.asked.length = 24) (hzt : σ.table.length = 4 ∨ σ.table.length = 8) (hw : σ.Wf p.n) (km : KnowsMine p v σ.table) (nf : v.flag = false → v.other ≠ v.ident → NewFor v.mine v.e (saltOf false v.other) σ.table) (hkn : ∃ t, m "known" = some (.int (σ.table.length : Int) t))
    (hQ : ∀ h' k gs m', AllBare gs → Fr b0 L h' m' → XT h' → (∃ ps, h'.get? 143 = some (tabObj ps)) → Q (.ret (.bool true)) { s with heap := h', toks := k, gens := gs }) :
    wpAny (model prog w) A (execs (rest 29) (envL L)) Q E s := by
  obtain ⟨tkn, hkn⟩ := hkn
  obtain ⟨tsec, hsec⟩ := N.secret
  obtain ⟨tmi, hmi⟩ := N.mine
  obtain ⟨tot, hot⟩ := N.other
  have hmine := B.vo.mine
  have hother := B.vo.other
  have hls : v.secret.length = 2 * p.n := by simp [Vl.secret, enc_length, B.pn]; omega
  refine wpAny_execs_cons ?_
  walk_at "mw"
  refine law_encrypt S B Kc N hbD hsec hmi hot hls (by walk_at "dp") (by walk_at "dp") (by walk_at "dp") (by walk_at "dp") hh (by walk_at "dp") (by walk_at "dp") hw fun x h₁ t₁ k₁ gs₁ hx S₁ KB₁ => ?_
  have hx' : x = rounds p v.mine v.e (saltOf v.flag v.other) ⟨σ, enc p.n v.left, enc p.n v.right⟩ [0, 1, 2, 3] := by
    rw [hx, Vl.secret, ← B.pn, cut_l, cut_r]
  refine stLw S₁ B fun h₂ S₂ _ => ?_
  have N₂ := N.set (x := "told") (u := .bytes (x.r ++ x.l).toArray t₁)
  dsimp only at S₂ ⊢
  refine wpAny_execs_cons ?_
  walk_at "mw"
  obtain ⟨tid, hid⟩ := N₂.identifier
  obtain ⟨tot2, hot2⟩ := N₂.other
  obtain ⟨twa, hwa⟩ := N₂.wanted
  refine wpAny_mono (Q := fun b s' => b = (v.flag || decide (v.other = v.ident)) ∧ ∃ k, s' = { s with heap := h₂, toks := k, gens := gs₁ }) (E := E) ?_ ?_ fun _ _ e => e
  · refine wpAny_isTrue_BoolOp (wpAny_allTrue_Or_cons (wpAny_isTrue_value (nmX S₂.X Kc.flag (wpAny_truthy_bool ?_))))
    by_cases hf : v.flag = true
    · rw [if_pos hf]
      exact ⟨by simp [hf], _, rfl⟩
    · rw [if_neg hf]
      refine wpAny_allTrue_Or_cons ?_
      walk_at "mw"
      refine nmL S₂.F hot2 (nmL S₂.F hid (eq_int (wpAny_truthy_bool ?_)))
      have e1 : ((v.other : Int) == (v.ident : Int)) = decide (v.other = v.ident) := by
        by_cases q : v.other = v.ident
        · simp [q]
        · have : ¬ (v.other : Int) = (v.ident : Int) := by omega
          simp [q, this]
      rw [e1]
      by_cases q : v.other = v.ident
      · rw [if_pos (by simpa using q)]
        exact ⟨by simp [q], _, rfl⟩
      · rw [if_neg (by simpa using q)]
        exact wpAny_allTrue_Or_nil ⟨by simp [hf, q], _, rfl⟩
  · rintro b s' ⟨rfl, k₂, rfl⟩
    by_cases hc : (v.flag || decide (v.other = v.ident)) = true
    · -- the same salt
      rw [if_pos hc]
      have hS : saltOf v.flag v.other = v.S := by
        unfold Vl.S saltOf
        rcases Bool.or_eq_true_iff.mp hc with q | q
        · rw [if_pos q, if_pos q]
        · rw [of_decide_eq_true q]
      have hxe : x = ⟨⟨σ.asked ++ cqs p v.mine v.e v.S v.right v.y2 v.y3 v.lower, σ.table⟩, enc p.n v.lower, enc p.n v.upper⟩ := by
        rw [hx', hS]
        refine enc_known (y0 := v.left) (y5 := v.upper) km rfl rfl ?_ ?_
        · show v.left ^^^ v.ri 0 ^^^ (v.left ^^^ v.ri 0 ^^^ v.lower) = v.lower
          rw [← Nat.xor_assoc, Nat.xor_self, Nat.zero_xor]
        · show v.right ^^^ v.ri 1 ^^^ (v.right ^^^ v.ri 1 ^^^ v.upper) = v.upper
          rw [← Nat.xor_assoc, Nat.xor_self, Nat.zero_xor]
      have htab : x.σ.table.length = σ.table.length := by rw [hxe]
      have hask : x.σ.asked.length = 28 := by rw [hxe]; simp [cqs, hza]
      have htold : x.r ++ x.l = v.wanted := by rw [hxe]; simp [Vl.wanted, B.pn]
      refine wpAny_execs_cons ?_
      walk_at "mw"
      refine wpAny_isTrue_BoolOp (wpAny_allTrue_Or_cons (wpAny_isTrue_Not (wpAny_isTrue_value (ev_same (x1 := "told") S₂ B (by walk_at "dp") rfl hwa fun h₃ k₃ K₃ => wpAny_truthy_bool ?_))))
      rw [htold]
      rw [show (v.wanted == v.wanted) = true by simp, if_neg (by decide)]
      have S₃ := S₂.kp K₃
      refine wpAny_allTrue_Or_cons ?_
      walk_at "mw"
      refine law_lenT S₃ B Kc (by walk_at "dp") fun k₄ t₄ => ?_
      refine nmL S₃.F hkn (ne_int (wpAny_truthy_bool ?_))
      rw [htab, show ((σ.table.length : Int) != (σ.table.length : Int)) = false by simp, if_neg (by decide)]
      refine wpAny_allTrue_Or_nil ?_
      rw [if_neg (by decide)]
      refine wpAny_execs_nil (wpAny_execs_nil ?_)
      exact law31 (s := { s with heap := h₃, toks := k₄, gens := gs₁ }) S₃ B N₂ Kc hb0 hfr (by walk_at "dp") (by walk_at "dp") hh (by walk_at "dp") hQ
    · -- another salt
      rw [if_neg hc]
      have hf : v.flag = false := by
        cases q : v.flag
        · rfl
        · rw [q] at hc; simp at hc
      have ho : v.other ≠ v.ident := fun q => hc (by simp [q])
      have hnew := nf hf ho
      have hk4 : σ.table.length + 4 ≤ 12 := by omega
      have hP := B.P
      have hxe : x = ⟨⟨σ.asked ++ cqs p v.mine v.e (saltOf false v.other) v.right (v.left ^^^ ansAt p σ.table.length) (v.right ^^^ ansAt p (σ.table.length + 1)) (v.left ^^^ ansAt p σ.table.length ^^^ ansAt p (σ.table.length + 2)),
          σ.table ++ newT p v.mine v.e (saltOf false v.other) v.right (v.left ^^^ ansAt p σ.table.length) (v.right ^^^ ansAt p (σ.table.length + 1)) (v.left ^^^ ansAt p σ.table.length ^^^ ansAt p (σ.table.length + 2)) (ansAt p σ.table.length) (ansAt p (σ.table.length + 1)) (ansAt p (σ.table.length + 2)) (ansAt p (σ.table.length + 3))⟩,
          enc p.n (v.left ^^^ ansAt p σ.table.length ^^^ ansAt p (σ.table.length + 2)), enc p.n (v.right ^^^ ansAt p (σ.table.length + 1) ^^^ ansAt p (σ.table.length + 3))⟩ := by
        rw [hx', hf]
        exact enc_new hnew rfl rfl rfl rfl rfl rfl rfl rfl
      have hask : x.σ.asked.length = 28 := by rw [hxe]; simp [cqs, hza]
      have htold : x.r ++ x.l = enc v.n (v.right ^^^ ansAt p (σ.table.length + 1) ^^^ ansAt p (σ.table.length + 3)) ++ enc v.n (v.left ^^^ ansAt p σ.table.length ^^^ ansAt p (σ.table.length + 2)) := by rw [hxe, ← B.pn]
      -- none, one, two, three
      refine wpAny_execs_cons (Assign_Tuple ?_ (by rfl) (by rfl))
      refine Subscript_ (nmX S₂.X Kc.answers ?_)
      refine wpAny_Slice (wpAny_evalPart_some (nmL S₂.F hkn (wpAny_evalPart_some ?_)))
      walk_at "mw"
      refine nmL S₂.F hkn ?_
      walk_at "mw"
      refine add_int (wpAny_evalPart_none ?_)
      obtain ⟨va, hla, hia⟩ := id S₂.C.answers
      have hva : va.length = 12 := by rw [hia.length, List.length_map, hP.len]
      obtain ⟨u0, u1, u2, u3, hcut⟩ := cut4 (k := σ.table.length) hia hP.len hk4
      refine lslice_raw hla (.int _ _) (.int _ _) (by walk_at "dp") fun D h₃ K₃ hD hl₃ => ?_
      rw [hcut] at hl₃
      have S₃ := S₂.kp K₃
      refine unpackL hh hl₃.isList (by rfl) (by rfl) fun h₄ K₄ => ?_
      have S₄ := S₃.kp K₄
      refine wpAny_bind (wpAny_assign_Name (stLw S₄ B fun h₅ S₅ _ => ?_))
      refine wpAny_bind (wpAny_assign_Name (stLw S₅ B fun h₆ S₆ _ => ?_))
      refine wpAny_bind (wpAny_assign_Name (stLw S₆ B fun h₇ S₇ _ => ?_))
      refine wpAny_bind (wpAny_assign_Name (stLw S₇ B fun h₈ S₈ _ => ?_))
      refine wpAny_pure ?_
      have N₈ := (((N₂.set (x := "none") (u := .int ((ansAt p σ.table.length : Nat) : Int) u0)).set (x := "one") (u := .int ((ansAt p (σ.table.length + 1) : Nat) : Int) u1)).set (x := "two") (u := .int ((ansAt p (σ.table.length + 2) : Nat) : Int) u2)).set (x := "three") (u := .int ((ansAt p (σ.table.length + 3) : Nat) : Int) u3)
      dsimp only at S₈ ⊢
      have b0' := ansAt_lt hP σ.table.length
      have b1' := ansAt_lt hP (σ.table.length + 1)
      have b2' := ansAt_lt hP (σ.table.length + 2)
      have b3' := ansAt_lt hP (σ.table.length + 3)
      rw [B.pn] at b0' b1' b2' b3'
      refine wpAny_execs_cons ?_
      walk_at "mw"
      refine wpAny_isTrue_Not (wpAny_isTrue_value (ev_sameM (x1 := "told") S₈ B Kc rfl (by walk_at "dp") hh (tells3 (x2 := "one") (x3 := "three") N₈.right ⟨_, rfl⟩ ⟨_, rfl⟩) (tells3 (x2 := "none") (x3 := "two") N₈.left ⟨_, rfl⟩ ⟨_, rfl⟩)
        (all3 B.vo.right b1' b3') (all3 B.vo.left b0' b2') (by simp) (by simp) fun h₉ k₉ K₉ => wpAny_truthy_bool ?_))
      rw [htold, xor3, xor3]
      rw [show ∀ l : List UInt8, (l == l) = true from fun l => by simp, if_neg (by decide)]
      have S₉ := S₈.kp K₉
      refine wpAny_execs_nil ?_
      -- the last four questions
      refine wpAny_execs_cons ?_
      walk_at "mw"
      walk_at "mw"
      refine Subscript_ (nmX S₉.X Kc.asked ?_)
      refine wpAny_Slice (wpAny_evalPart_some ?_)
      walk_at "mw"
      refine wpAny_evalPart_none (wpAny_evalPart_none ?_)
      obtain ⟨vs, hvl, hva⟩ := id S₉.C.asked
      have hvs : vs.length = 28 := by rw [hva.length, hask]
      refine lslice_raw hvl.isList (.int _ _) .none (by walk_at "dp") fun D₂ h₁₀ K₁₀ hD₂ hl₁₀ => ?_
      have ecut : cutOf vs (some 24) none = vs.drop 24 := by
        unfold cutOf
        simp only [Option.elim]
        rw [show (24 : Int) = ((24 : Nat) : Int) from rfl, clipAt_nat, hvs]
        exact List.take_of_length_le (by simp [hvs])
      rw [ecut] at hl₁₀
      have S₁₀ := S₉.kp K₁₀
      have hva₁₀ : All2 (IsTq prog w h₁₀) (vs.drop 24) (x.σ.asked.drop 24) := (hva.drop 24).imp fun _ _ t => tq_kp t K₁₀
      obtain ⟨tmi8, hmi8⟩ := N₈.mine
      obtain ⟨tot8, hot8⟩ := N₈.other
      refine ev_questions S₁₀ B Kc N₈ hmi8 hot8 (by walk_at "dp") (by walk_at "dp") (by walk_at "dp") hh (tells1 N₈.right) (tells2 (x2 := "none") N₈.left ⟨_, rfl⟩) (tells2 (x2 := "one") N₈.right ⟨_, rfl⟩) (tells3 (x2 := "none") (x3 := "two") N₈.left ⟨_, rfl⟩ ⟨_, rfl⟩)
        (all1 B.vo.right) (all2 B.vo.left b0') (all2 B.vo.right b1') (all3 B.vo.left b0' b2') (by simp) (by simp) (by simp) (by simp) fun D₃ h₁₁ k₁₁ ys hD₃ hl₁₁ ha₁₁ K₁₁ => ?_
      rw [xor1, xor2, xor2, xor3, hf] at ha₁₁
      have easked : x.σ.asked.drop 24 = cqs p v.mine v.e (saltOf false v.other) v.right (v.left ^^^ ansAt p σ.table.length) (v.right ^^^ ansAt p (σ.table.length + 1)) (v.left ^^^ ansAt p σ.table.length ^^^ ansAt p (σ.table.length + 2)) := by
        rw [hxe]
        show (σ.asked ++ _).drop 24 = _
        rw [← hza, List.drop_left]
      rw [easked] at hva₁₀
      obtain ⟨c10, e10⟩ := hl₁₀
      refine ne_tqs (vs := vs.drop 24) (us := ys) ⟨_, K₁₁ _ _ e10, rfl, _, rfl⟩ hl₁₁.isList (hva₁₀.imp fun _ _ t => tq_kp t K₁₁) ha₁₁ (by walk_at "dp") (wpAny_truthy_bool ?_)
      rw [if_neg (by decide)]
      have S₁₁ := S₁₀.kp K₁₁
      refine wpAny_execs_nil (wpAny_execs_nil ?_)
      exact law31 (s := { s with heap := h₁₁, toks := k₁₁, gens := gs₁ }) S₁₁ B N₈ Kc hb0 hfr (by walk_at "dp") (by walk_at "dp") hh (by walk_at "dp") hQ
end
end

section
set_option linter.unusedVariables false
set_option maxRecDepth 8000
section
variable {prog : Program} {w : World} {A : Around} {E : Value → Shared → Prop} {s : Shared} {L fQ cQ : Addr} {b0 : Heap} {m cm mg mb : Str → Option Value} {p : Pm} {g : Heap} {σ σ' : Sig} {v : Vl} {K : Frag}



/-- the table after the first chain -/
def T1 (p : Pm) (v : Vl) : List (QK × List UInt8) := newT p v.mine v.e v.S v.right v.y2 v.y3 v.lower (v.ri 0) (v.ri 1) v.a2 v.a3
theorem T1_len : (T1 p v).length = 4 := rfl
theorem T1_knows : KnowsMine p v (T1 p v) := by
  have := knows_new (p := p) (t := []) (y1 := v.right) (y2 := v.y2) (y3 := v.y3) (y4 := v.lower) (a0 := v.ri 0) (a1 := v.ri 1) (a2 := v.a2) (a3 := v.a3) (newFor_nil (pw := v.mine) (e := v.e) (S := v.S))
  simpa [T1, KnowsMine] using this
theorem S_ne {v : Vl} (o : v.Ok) (hf : v.flag = false) (h : v.other ≠ v.ident) : saltOf false v.other ≠ v.S ∧ (saltOf false v.other).length = v.S.length := by
  unfold Vl.S
  rw [hf]
  have h1 := o.other
  have h2 := o.ident
  exact ⟨salt_ne (by walk_at "dp") (by walk_at "dp") h, salt_len⟩
theorem T1_other {v : Vl} (o : v.Ok) (hf : v.flag = false) (h : v.other ≠ v.ident) : NewFor v.mine v.e (saltOf false v.other) (T1 p v) := by
  obtain ⟨h1, h2⟩ := S_ne o hf h
  refine fun i r hi => look_none_of fun x hx => ?_
  obtain ⟨j, y, e⟩ := newT_mem hx
  rw [e]
  exact cq_salt (Ne.symm h1) h2.symm
theorem T1_yours {v : Vl} (h : v.yours ≠ v.mine) : NewFor v.yours v.e v.S (T1 p v) := by
  refine fun i r hi => look_none_of fun x hx => ?_
  obtain ⟨j, y, e⟩ := newT_mem hx
  rw [e]
  exact cq_pw (Ne.symm h)

/-- asked from the sixteenth on -/
theorem ev_askedFrom {n : Nat} {pa pb pc : Pos} {kk : Nat} {Q : Value → Shared → Prop} (S : LSt prog w p g b0 L σ m cm s.heap s.gens) (B : Bg K mg mb p v L fQ cQ g) (Kc : Cm v p cm) (hz : n ≤ σ.asked.length) (hz2 : σ.asked.length ≤ 900)
    (h : ∀ D h' k ys, s.heap.get? D = none → h'.PlainList D ys.toArray → All2 (IsTq prog w h') ys (σ.asked.drop n) → Kp s.heap h' → Q (.ref D) { s with heap := h', toks := k }) {ps : Pos} :
    wpAny (model prog w) A (eval (.Subscript (.Name "asked" pa) (.Slice (some (.Constant (.int (n : Int)) kk pb)) none none ps) pc) (envL L)) Q E s := by
  refine Subscript_ (nmX S.X Kc.asked ?_)
  refine wpAny_Slice (wpAny_evalPart_some ?_)
  walk_at "mw"
  refine wpAny_evalPart_none (wpAny_evalPart_none ?_)
  obtain ⟨vs, hvl, hva⟩ := id S.C.asked
  have hvs := hva.length
  refine lslice_raw hvl.isList (.int _ _) .none (by walk_at "dp") fun D h' K' hD hl => ?_
  have ecut : cutOf vs (some (n : Int)) none = vs.drop n := by
    unfold cutOf
    simp only [Option.elim]
    rw [clipAt_nat, hvs, Nat.min_eq_left hz]
    exact List.take_of_length_le (by simp [hvs])
  rw [ecut] at hl
  exact h D h' _ _ hD hl ((hva.drop n).imp fun _ _ t => tq_kp t K') K'

/-- a list told backwards -/
theorem rev4 {ys zs : List Value} {h : Heap} {l : List QK} (ha : All2 (IsTq prog w h) ys l) (hl : zs.length = 4) (hz : ∀ (i : Nat) z, zs[i]? = some z → ys[3 - i]? = some z) (h4 : l.length = 4 := by rfl) : All2 (IsTq prog w h) zs l.reverse := by
  refine All2.ofGet (by simp [hl, h4]) fun i a b ea eb => ?_
  have hi : i < 4 := by
    have := (List.getElem?_eq_some_iff.mp ea).1
    omega
  obtain ⟨b', e, t⟩ := ha.get _ _ (hz i a ea)
  rw [List.getElem?_reverse (by walk_at "dp"), h4] at eb
  rw [show 4 - 1 - i = 3 - i by omega, e] at eb
  cases eb
  exact t
end
end

section
set_option linter.unusedVariables false
set_option maxRecDepth 8000
section
variable {prog : Program} {w : World} {A : Around} {E : Value → Shared → Prop} {s : Shared} {L fQ cQ : Addr} {b0 : Heap} {m cm mg mb : Str → Option Value} {p : Pm} {g : Heap} {σ σ' : Sig} {v : Vl} {K : Frag}



set_option maxHeartbeats 4000000 in
/-- items 27 and 28: the opened one goes back -/
theorem law27 {Q : Flow → Shared → Prop} {y0 y1 y2 y3 a0 a1 a2 a3 : Nat} (S : LSt prog w p g b0 L σ m cm s.heap s.gens) (B : Bg K mg mb p v L fQ cQ g) (N : Nm v p fQ m) (Kc : Cm v p cm) (hbD : ∀ a ∈ p.D, b0.get? a = none) (hb0 : b0.get? L = none) (hfr : A.frames = some [envL L]) (hroom : A.depth + 250 < recursionLimit) (hun : A.units + 250 < cLine) (hh : A.handled = none)
    (hza : σ.asked.length = 20) (hzt : σ.table.length = 4 ∨ σ.table.length = 8) (hw : σ.Wf p.n) (km : KnowsMine p v σ.table) (nf : v.flag = false → v.other ≠ v.ident → NewFor v.mine v.e (saltOf false v.other) σ.table)
    (hop : ∃ t, m "opened" = some (.bytes (enc v.n y0 ++ enc v.n y1).toArray t)) (ky : Knows p v.yours v.e v.S σ.table y1 y2 y3 v.lower a0 a1 a2 a3) (e2 : y0 ^^^ a0 = y2) (e3 : y1 ^^^ a1 = y3) (e4 : y2 ^^^ a2 = v.lower) (e5 : y3 ^^^ a3 = v.upper)
    (hQ : ∀ h' k gs m', AllBare gs → Fr b0 L h' m' → XT h' → (∃ ps, h'.get? 143 = some (tabObj ps)) → Q (.ret (.bool true)) { s with heap := h', toks := k, gens := gs }) :
    wpAny (model prog w) A (execs (rest 27) (envL L)) Q E s := by
  obtain ⟨top, hop⟩ := hop
  have hyours := B.vo.yours
  have hident := B.vo.ident
  refine wpAny_execs_cons ?_
  walk_at "mw"
  refine law_lenT S B Kc (by walk_at "dp") fun k₁ t₁ => ?_
  refine stLw (s := { s with toks := k₁ }) S B fun h₂ S₂ _ => ?_
  have N₂ := N.set (x := "known") (u := .int (σ.table.length : Int) t₁)
  dsimp only at S₂ ⊢
  obtain ⟨tyo, hyo⟩ := N₂.yours
  obtain ⟨tid, hid⟩ := N₂.identifier
  obtain ⟨twa, hwa⟩ := N₂.wanted
  have G₂ := B.G.keeps S₂.C.keep
  refine wpAny_execs_cons ?_
  walk_at "mw"
  refine wpAny_isTrue_BoolOp (wpAny_allTrue_Or_cons (wpAny_isTrue_Not (wpAny_isTrue_value ?_)))
  walk_at "mw"
  refine nmG G₂ G₂.n_ls (callWith_F G₂.f_ls.at ?_)
  walk_at "mw"
  refine law_encrypt (x1 := "opened") S₂ B Kc N₂ hbD hop hyo hid (by simp [enc_length, B.pn]; omega) (by walk_at "dp") (by walk_at "dp") (by walk_at "dp") (by walk_at "dp") hh (by walk_at "dp") (by walk_at "dp") hw fun x h₃ t₃ k₃ gs₃ hx S₃ KB₃ => ?_
  have hxe : x = ⟨⟨σ.asked ++ cqs p v.yours v.e v.S y1 y2 y3 v.lower, σ.table⟩, enc p.n v.lower, enc p.n v.upper⟩ := by
    rw [hx, ← B.pn, cut_l, cut_r]
    exact enc_known (y5 := v.upper) ky e2 e3 e4 e5
  have hout : x.r ++ x.l = v.wanted := by rw [hxe]; simp [Vl.wanted, B.pn]
  have htab : x.σ.table = σ.table := by rw [hxe]
  have hask : x.σ.asked.length = 24 := by rw [hxe]; simp [cqs, hza]
  have G₃ := B.G.keeps S₃.C.keep
  walk_at "mw"
  refine nmL S₃.F hwa (wpAny_items_nil ⟨G₃.f_ls.at, ?_⟩)
  refine law_same_call (b := (x.r ++ x.l).toArray) (c := v.wanted.toArray) G₃ (by walk_at "dp") fun h₄ k₄ K₄ => wpAny_truthy_bool ?_
  dsimp only
  rw [hout, show (v.wanted == v.wanted) = true by simp, if_neg (by decide)]
  have S₄ := S₃.kp K₄
  refine wpAny_allTrue_Or_cons ?_
  walk_at "mw"
  refine law_lenT S₄ B Kc (by rw [htab]; omega) fun k₅ t₅ => ?_
  refine nmL S₄.F rfl (ne_int (wpAny_truthy_bool ?_))
  rw [htab, show ((σ.table.length : Int) != (σ.table.length : Int)) = false by simp, if_neg (by decide)]
  refine wpAny_allTrue_Or_nil ?_
  rw [if_neg (by decide)]
  refine wpAny_execs_nil ?_
  exact law29 (s := { s with heap := h₄, toks := k₅, gens := gs₃ }) S₄ B N₂ Kc hbD hb0 hfr hroom hun hh hask (by rw [htab]; exact hzt) (by intro z hz; rw [htab] at hz; exact hw z hz) (by rw [htab]; exact km) (by rw [htab]; exact nf) ⟨t₁, by rw [htab]; rfl⟩ hQ

set_option maxHeartbeats 4000000 in
/-- items 25 and 26: another passphrase opens -/
theorem law25 {Q : Flow → Shared → Prop} {bA : Addr} {ysb : List Value} (S : LSt prog w p g b0 L σ m cm s.heap s.gens) (B : Bg K mg mb p v L fQ cQ g) (N : Nm v p fQ m) (Kc : Cm v p cm) (hbD : ∀ a ∈ p.D, b0.get? a = none) (hb0 : b0.get? L = none) (hfr : A.frames = some [envL L]) (hroom : A.depth + 250 < recursionLimit) (hun : A.units + 250 < cLine) (hh : A.handled = none)
    (hza : σ.asked.length = 16) (hzt : σ.table = T1 p v) (hw : σ.Wf p.n)
    (hbk : m "back" = some (.ref bA)) (hbl : g.PlainList bA ysb.toArray) (hba : All2 (IsTq prog w g) ysb (cqs p v.mine v.e v.S v.right v.y2 v.y3 v.lower).reverse)
    (hQ : ∀ h' k gs m', AllBare gs → Fr b0 L h' m' → XT h' → (∃ ps, h'.get? 143 = some (tabObj ps)) → Q (.ret (.bool true)) { s with heap := h', toks := k, gens := gs }) :
    wpAny (model prog w) A (execs (rest 25) (envL L)) Q E s := by
  obtain ⟨twa, hwa⟩ := N.wanted
  obtain ⟨tyo, hyo⟩ := N.yours
  obtain ⟨tid, hid⟩ := N.identifier
  have hyours := B.vo.yours
  have hident := B.vo.ident
  have hlw : v.wanted.length = 2 * p.n := by simp [Vl.wanted, enc_length, B.pn]; omega
  have hlen4 : σ.table.length = 4 := by rw [hzt]; rfl
  refine wpAny_execs_cons ?_
  walk_at "mw"
  refine law_decrypt S B Kc N hbD hwa hyo hid hlw (by walk_at "dp") (by walk_at "dp") (by walk_at "dp") (by walk_at "dp") hh (by walk_at "dp") (by walk_at "dp") hw fun x h₁ t₁ k₁ gs₁ hx S₁ KB₁ => ?_
  have hxw : x.σ.Wf p.n := by rw [hx]; exact askS_wf' rfl hw
  have hx' : x = rounds p v.yours v.e v.S ⟨σ, enc p.n v.upper, enc p.n v.lower⟩ [3, 2, 1, 0] := by
    rw [hx, Vl.wanted, ← B.pn, cut_l, cut_r]; rfl
  refine stLw S₁ B fun h₂ S₂ _ => ?_
  have N₂ := N.set (x := "opened") (u := .bytes (x.r ++ x.l).toArray t₁)
  dsimp only at S₂ ⊢
  obtain ⟨tyo2, hyo2⟩ := N₂.yours
  obtain ⟨tmi2, hmi2⟩ := N₂.mine
  obtain ⟨tse2, hse2⟩ := N₂.secret
  refine wpAny_execs_cons ?_
  walk_at "mw"
  walk_at "mw"
  refine nmL S₂.F hyo2 (nmL S₂.F hmi2 (eq_bytes (wpAny_truthy_bool ?_)))
  have hP := B.P
  by_cases hym : v.yours = v.mine
  · -- the same passphrase
    rw [if_pos (by simp [hym])]
    have hxe : x = ⟨⟨σ.asked ++ (cqs p v.mine v.e v.S v.right v.y2 v.y3 v.lower).reverse, σ.table⟩, enc p.n v.right, enc p.n v.left⟩ := by
      rw [hx', hym]
      refine dec_known (y0 := v.left) (y5 := v.upper) (t := σ.table) (asked := σ.asked) (by rw [hzt]; exact T1_knows) ?_ ?_ ?_ ?_
      · show v.upper ^^^ (v.right ^^^ v.ri 1 ^^^ v.upper) = v.right ^^^ v.ri 1
        rw [Nat.xor_comm (v.right ^^^ v.ri 1) v.upper, ← Nat.xor_assoc, Nat.xor_self, Nat.zero_xor]
      · show v.lower ^^^ (v.left ^^^ v.ri 0 ^^^ v.lower) = v.left ^^^ v.ri 0
        rw [Nat.xor_comm (v.left ^^^ v.ri 0) v.lower, ← Nat.xor_assoc, Nat.xor_self, Nat.zero_xor]
      · show v.right ^^^ v.ri 1 ^^^ v.ri 1 = v.right
        rw [Nat.xor_assoc, Nat.xor_self, Nat.xor_zero]
      · show v.left ^^^ v.ri 0 ^^^ v.ri 0 = v.left
        rw [Nat.xor_assoc, Nat.xor_self, Nat.xor_zero]
    have hout : x.r ++ x.l = v.secret := by rw [hxe]; simp [Vl.secret, B.pn]
    have htab : x.σ.table = T1 p v := by rw [hxe]; exact hzt
    have hask : x.σ.asked.length = 20 := by rw [hxe]; simp [cqs, hza]
    refine wpAny_execs_cons ?_
    walk_at "mw"
    refine wpAny_isTrue_BoolOp (wpAny_allTrue_Or_cons (wpAny_isTrue_Not (wpAny_isTrue_value (ev_same (x1 := "opened") S₂ B (by walk_at "dp") rfl hse2 fun h₃ k₃ K₃ => wpAny_truthy_bool ?_))))
    rw [hout, show (v.secret == v.secret) = true by simp, if_neg (by decide)]
    have S₃ := S₂.kp K₃
    refine wpAny_allTrue_Or_cons ?_
    walk_at "mw"
    refine ev_askedFrom (n := 16) S₃ B Kc (by walk_at "dp") (by walk_at "dp") fun D h₄ k₄ ys hD hl₄ ha₄ K₄ => ?_
    have S₄ := S₃.kp K₄
    have edrop : x.σ.asked.drop 16 = (cqs p v.mine v.e v.S v.right v.y2 v.y3 v.lower).reverse := by
      rw [hxe]
      show (σ.asked ++ _).drop 16 = _
      rw [← hza, List.drop_left]
    rw [edrop] at ha₄
    have hbl₄ : h₄.PlainList bA ysb.toArray := let ⟨c, e⟩ := hbl; ⟨c, S₄.C.keep _ _ e⟩
    refine nmL S₄.F hbk (ne_tqs hl₄.isList hbl₄.isList ha₄ (hba.imp fun _ _ t => tq_kp t S₄.C.keep) (by walk_at "dp") (wpAny_truthy_bool ?_))
    rw [if_neg (by decide)]
    refine wpAny_allTrue_Or_nil ?_
    rw [if_neg (by decide)]
    refine wpAny_execs_nil (wpAny_execs_nil ?_)
    refine law27 (s := { s with heap := h₄, toks := k₄, gens := gs₁ }) (y0 := v.left) (y1 := v.right) (y2 := v.y2) (y3 := v.y3) S₄ B N₂ Kc hbD hb0 hfr hroom hun hh hask (by rw [htab]; exact .inl rfl) hxw (by rw [htab]; exact T1_knows) (fun hf ho => by rw [htab]; exact T1_other B.vo hf ho) ⟨t₁, by rw [hout]; rfl⟩ (by rw [htab, hym]; exact T1_knows) rfl rfl ?_ ?_ hQ
    · show v.left ^^^ v.ri 0 ^^^ (v.left ^^^ v.ri 0 ^^^ v.lower) = v.lower
      rw [← Nat.xor_assoc, Nat.xor_self, Nat.zero_xor]
    · show v.right ^^^ v.ri 1 ^^^ (v.right ^^^ v.ri 1 ^^^ v.upper) = v.upper
      rw [← Nat.xor_assoc, Nat.xor_self, Nat.zero_xor]
  · -- another
    rw [if_neg (by simpa using hym)]
    have hnew := T1_yours (p := p) (v := v) hym
    obtain ⟨z0, hz0⟩ : ∃ z, z = v.lower ^^^ ansAt p 5 ^^^ ansAt p 7 := ⟨_, rfl⟩
    obtain ⟨z1, hz1⟩ : ∃ z, z = v.upper ^^^ ansAt p 4 ^^^ ansAt p 6 := ⟨_, rfl⟩
    have hxe : x = ⟨⟨σ.asked ++ (cqs p v.yours v.e v.S z1 (v.lower ^^^ ansAt p 5) (v.upper ^^^ ansAt p 4) v.lower).reverse, T1 p v ++ (newT p v.yours v.e v.S z1 (v.lower ^^^ ansAt p 5) (v.upper ^^^ ansAt p 4) v.lower (ansAt p 7) (ansAt p 6) (ansAt p 5) (ansAt p 4)).reverse⟩, enc p.n z1, enc p.n z0⟩ := by
      rw [hx', show σ = ⟨σ.asked, T1 p v⟩ by rw [← hzt], hz0, hz1]
      exact dec_new hnew rfl rfl rfl rfl rfl rfl rfl rfl
    have hout : x.r ++ x.l = enc v.n z0 ++ enc v.n z1 := by rw [hxe, ← B.pn]
    have htab : x.σ.table = T1 p v ++ (newT p v.yours v.e v.S z1 (v.lower ^^^ ansAt p 5) (v.upper ^^^ ansAt p 4) v.lower (ansAt p 7) (ansAt p 6) (ansAt p 5) (ansAt p 4)).reverse := by rw [hxe]
    have hask : x.σ.asked.length = 20 := by rw [hxe]; simp [cqs, hza]
    have b4 := ansAt_lt hP 4
    have b5 := ansAt_lt hP 5
    have b6 := ansAt_lt hP 6
    have b7 := ansAt_lt hP 7
    rw [B.pn] at b4 b5 b6 b7
    -- three, two, one, none
    refine wpAny_execs_cons (Assign_Tuple ?_ (by rfl) (by rfl))
    refine Subscript_ (nmX S₂.X Kc.answers ?_)
    refine wpAny_Slice (wpAny_evalPart_some ?_)
    walk_at "mw"
    refine wpAny_evalPart_some ?_
    walk_at "mw"
    refine wpAny_evalPart_none ?_
    obtain ⟨va, hla, hia⟩ := id S₂.C.answers
    have hva : va.length = 12 := by rw [hia.length, List.length_map, hP.len]
    obtain ⟨u0, u1, u2, u3, hcut⟩ := cut4 (k := 4) hia hP.len (by decide)
    refine lslice_raw hla (.int _ _) (.int _ _) (by walk_at "dp") fun D h₃ K₃ hD hl₃ => ?_
    have hl₃' : h₃.PlainList D ([.int ((ansAt p 4 : Nat) : Int) u0, .int ((ansAt p 5 : Nat) : Int) u1, .int ((ansAt p 6 : Nat) : Int) u2, .int ((ansAt p 7 : Nat) : Int) u3] : List Value).toArray := by rw [← hcut]; exact hl₃
    have S₃ := S₂.kp K₃
    refine unpackL hh hl₃'.isList (by rfl) (by rfl) fun h₄ K₄ => ?_
    have S₄ := S₃.kp K₄
    refine wpAny_bind (wpAny_assign_Name (stLw S₄ B fun h₅ S₅ _ => ?_))
    refine wpAny_bind (wpAny_assign_Name (stLw S₅ B fun h₆ S₆ _ => ?_))
    refine wpAny_bind (wpAny_assign_Name (stLw S₆ B fun h₇ S₇ _ => ?_))
    refine wpAny_bind (wpAny_assign_Name (stLw S₇ B fun h₈ S₈ _ => ?_))
    refine wpAny_pure ?_
    have N₈ := (((N₂.set (x := "three") (u := .int ((ansAt p 4 : Nat) : Int) u0)).set (x := "two") (u := .int ((ansAt p 5 : Nat) : Int) u1)).set (x := "one") (u := .int ((ansAt p 6 : Nat) : Int) u2)).set (x := "none") (u := .int ((ansAt p 7 : Nat) : Int) u3)
    dsimp only at S₈ ⊢
    refine wpAny_execs_cons ?_
    walk_at "mw"
    refine wpAny_isTrue_Not (wpAny_isTrue_value (ev_sameM (x1 := "opened") S₈ B Kc rfl (by walk_at "dp") hh (tells3 (x2 := "two") (x3 := "none") N₈.lower ⟨_, rfl⟩ ⟨_, rfl⟩) (tells3 (x2 := "three") (x3 := "one") N₈.upper ⟨_, rfl⟩ ⟨_, rfl⟩)
      (all3 B.vo.lower b5 b7) (all3 B.vo.upper b4 b6) (by simp) (by simp) fun h₉ k₉ K₉ => wpAny_truthy_bool ?_))
    rw [hout, xor3, xor3, ← hz0, ← hz1, show ∀ l : List UInt8, (l == l) = true from fun l => by simp, if_neg (by decide)]
    have S₉ := S₈.kp K₉
    refine wpAny_execs_nil ?_
    -- second
    obtain ⟨tyo8, hyo8⟩ := N₈.yours
    obtain ⟨tid8, hid8⟩ := N₈.identifier
    refine wpAny_execs_cons ?_
    walk_at "mw"
    refine ev_questions S₉ B Kc N₈ hyo8 hid8 (by walk_at "dp") (by walk_at "dp") (by walk_at "dp") hh (tells3 (x2 := "three") (x3 := "one") N₈.upper ⟨_, rfl⟩ ⟨_, rfl⟩) (tells2 (x2 := "two") N₈.lower ⟨_, rfl⟩) (tells2 (x2 := "three") N₈.upper ⟨_, rfl⟩) (tells1 N₈.lower)
      (all3 B.vo.upper b4 b6) (all2 B.vo.lower b5) (all2 B.vo.upper b4) (all1 B.vo.lower) (by simp) (by simp) (by simp) (by simp) fun D₂ h₁₀ k₁₀ ys hD₂ hl₁₀ ha₁₀ K₁₀ => ?_
    rw [xor1, xor2, xor2, xor3, ← hz1] at ha₁₀
    have S₁₀ := S₉.kp K₁₀
    refine stCw S₁₀ B rfl (Nat.add_lt_add_left (by decide) _) fun h₁₁ S₁₁ D₁₁ => ?_
    have Kc₁₁ := Kc.set (x := "second") (u := .ref D₂)
    have nD := S₉.new hD₂
    have hl₁₁ : h₁₁.IsList D₂ ys.toArray := let ⟨c, e⟩ := hl₁₀; ⟨_, D₁₁.extBut _ _ (nD.2.2 "second" _ rfl) e, rfl, c, rfl⟩
    have hcs : h₁₁.IsCell (L + 3) (some (.ref D₂)) := S₁₁.X.cell "second" _ rfl
    obtain ⟨oc, hoc, hdc⟩ := S₁₀.X.cell "second" _ rfl
    have ha₁₁ : All2 (IsTq prog w h₁₁) ys (cqs p v.yours v.e (saltOf v.flag v.ident) z1 (v.lower ^^^ ansAt p 5) (v.upper ^^^ ansAt p 4) v.lower) := ha₁₀.imp fun _ _ t => tq_st t hoc (.inr fun _ _ q => by rw [hdc] at q; cases q) D₁₁.extBut
    dsimp only
    refine wpAny_execs_cons ?_
    walk_at "mw"
    walk_at "mw"
    refine ev_askedFrom (n := 16) S₁₁ B Kc₁₁ (by walk_at "dp") (by walk_at "dp") fun D₃ h₁₂ k₁₂ ysa hD₃ hl₁₂ ha₁₂ K₁₂ => ?_
    have S₁₂ := S₁₁.kp K₁₂
    have edrop : x.σ.asked.drop 16 = (cqs p v.yours v.e v.S z1 (v.lower ^^^ ansAt p 5) (v.upper ^^^ ansAt p 4) v.lower).reverse := by
      rw [hxe]
      show (σ.asked ++ _).drop 16 = _
      rw [← hza, List.drop_left]
    rw [edrop] at ha₁₂
    have hys : ys.length = 4 := ha₁₁.length
    refine ListComp_range (n := 4) (cl := [("second", L + 3)]) (fun i y => ys[3 - i]? = some y) hh (by decide) (by rfl) (fun Q' hQ' => ?_) (fun C i ti s₃ m₃ E' hi hN hm hk => ?_) fun D₄ h₁₃ tk₁₃ zs hD₄ hl₁₃ hlen₁₃ hR₁₃ K₁₃ => ?_
    · walk_at "mw"
      refine nmB (B.G.keeps S₁₂.C.keep) (B.G.free _ (by decide)) (by boot_fast) ?_
      refine PyProof.Rows.callWith_type1 ?_
      walk_at "mw"
      walk_at "mw"
      refine wpAny_items_nil (call_range_1 ?_)
      exact hQ' _ _ _ _ _ _ (IsRange.new _ _ _ _ _ _ _) fun b o e => Heap.get?_push_of_some _ e
    · have hk' : Kp h₁₁ s₃.heap := fun b o e => hk _ _ (K₁₂ _ _ e)
      refine Subscript_ (nmC (hcs.keeps hk') ?_)
      walk_at "mw"
      walk_at "mw"
      refine nmLN hN hm (sub_int ?_)
      obtain ⟨y, hy⟩ : ∃ y, ys[3 - i]? = some y := ⟨ys[3 - i]'(by walk_at "dp"), List.getElem?_eq_getElem (by walk_at "dp")⟩
      refine item_list (isList_kp hl₁₁ hk') (by walk_at "dp") (by walk_at "dp") (x := y) (by rw [← hy]; simp) ?_
      exact ⟨hy, _, _, rfl, fun _ _ e => e⟩
    · have S₁₃ := S₁₂.kp K₁₃
      have ha₁₃ : All2 (IsTq prog w h₁₃) zs (cqs p v.yours v.e v.S z1 (v.lower ^^^ ansAt p 5) (v.upper ^^^ ansAt p 4) v.lower).reverse := by
        have := rev4 (zs := zs) ha₁₁ hlen₁₃ hR₁₃
        exact this.imp fun _ _ t => tq_kp t fun b o e => K₁₃ _ _ (K₁₂ _ _ e)
      obtain ⟨c12, e12⟩ := hl₁₂
      refine ne_tqs (vs := ysa) (us := zs) ⟨_, K₁₃ _ _ e12, rfl, _, rfl⟩ hl₁₃ (ha₁₂.imp fun _ _ t => tq_kp t K₁₃) ha₁₃ (by walk_at "dp") (wpAny_truthy_bool ?_)
      rw [if_neg (by decide)]
      refine wpAny_execs_nil (wpAny_execs_nil ?_)
      refine law27 (s := { s with heap := h₁₃, toks := tk₁₃, gens := gs₁ }) (y0 := z0) (y1 := z1) (y2 := v.lower ^^^ ansAt p 5) (y3 := v.upper ^^^ ansAt p 4) (a0 := ansAt p 7) (a1 := ansAt p 6) (a2 := ansAt p 5) (a3 := ansAt p 4) S₁₃ B N₈ Kc₁₁ hbD hb0 hfr hroom hun hh hask (by rw [htab]; exact .inr rfl) hxw (by rw [htab]; exact T1_knows.more) (fun hf ho => ?_) ⟨t₁, by rw [hout]; rfl⟩ (by rw [htab]; exact knows_newR hnew) ?_ ?_ ?_ ?_ hQ
      · rw [htab]
        refine newFor_app (T1_other B.vo hf ho) fun x hx i r => ?_
        obtain ⟨j, y, e⟩ := newT_mem (List.mem_reverse.mp hx)
        obtain ⟨h1, h2⟩ := S_ne B.vo hf ho
        rw [e]
        exact cq_salt (Ne.symm h1) h2.symm
      · rw [hz0, Nat.xor_assoc, Nat.xor_self, Nat.xor_zero]
      · rw [hz1, Nat.xor_assoc, Nat.xor_self, Nat.xor_zero]
      · rw [Nat.xor_assoc, Nat.xor_self, Nat.xor_zero]
      · rw [Nat.xor_assoc, Nat.xor_self, Nat.xor_zero]
end
end

section
set_option linter.unusedVariables false
set_option maxRecDepth 8000
section
variable {prog : Program} {w : World} {A : Around} {E : Value → Shared → Prop} {s : Shared} {L fQ cQ : Addr} {b0 : Heap} {m cm mg mb : Str → Option Value} {p : Pm} {g : Heap} {σ σ' : Sig} {v : Vl} {K : Frag}



theorem own_nd : ∀ n c, (n, c) ∈ ownL L → (ownL L).lookup n = some c := fun n c hm => lookup_of_mem_nodup (cellsFrom_names (scoOf (stm 23)).names 0 (L + 1) [] [] rfl ▸ (by decide)) hm

/-- the lists first and back, held by the ground -/
structure FB (prog : Program) (w : World) (p : Pm) (v : Vl) (g : Heap) (fA bA : Addr) (ysf ysb : List Value) : Prop where
  f : g.PlainList fA ysf.toArray
  b : g.PlainList bA ysb.toArray
  fa : All2 (IsTq prog w g) ysf (cqs p v.mine v.e v.S v.right v.y2 v.y3 v.lower)
  ba : All2 (IsTq prog w g) ysb (cqs p v.mine v.e v.S v.right v.y2 v.y3 v.lower).reverse
theorem FB.keeps {g' : Heap} {fA bA : Addr} {ysf ysb : List Value} (x : FB prog w p v g fA bA ysf ysb) (k : Kp g g') : FB prog w p v g' fA bA ysf ysb :=
  ⟨let ⟨c, e⟩ := x.f; ⟨c, k _ _ e⟩, let ⟨c, e⟩ := x.b; ⟨c, k _ _ e⟩, x.fa.imp fun _ _ t => tq_kp t k, x.ba.imp fun _ _ t => tq_kp t k⟩

theorem xz1 (a b c : Nat) : a ^^^ b ^^^ (a ^^^ b ^^^ c) = c := by rw [← Nat.xor_assoc, Nat.xor_self, Nat.zero_xor]
theorem xz2 (a b c : Nat) : c ^^^ (a ^^^ b ^^^ c) = a ^^^ b := by rw [Nat.xor_comm (a ^^^ b) c, ← Nat.xor_assoc, Nat.xor_self, Nat.zero_xor]
theorem xz3 (a b : Nat) : a ^^^ b ^^^ b = a := by rw [Nat.xor_assoc, Nat.xor_self, Nat.xor_zero]

theorem encM {asked : List QK} : rounds p v.mine v.e v.S ⟨⟨asked, T1 p v⟩, enc p.n v.left, enc p.n v.right⟩ [0, 1, 2, 3] = ⟨⟨asked ++ cqs p v.mine v.e v.S v.right v.y2 v.y3 v.lower, T1 p v⟩, enc p.n v.lower, enc p.n v.upper⟩ :=
  enc_known (y0 := v.left) (y5 := v.upper) T1_knows rfl rfl (xz1 _ _ _) (xz1 _ _ _)
theorem decM {asked : List QK} : rounds p v.mine v.e v.S ⟨⟨asked, T1 p v⟩, enc p.n v.upper, enc p.n v.lower⟩ [3, 2, 1, 0] = ⟨⟨asked ++ (cqs p v.mine v.e v.S v.right v.y2 v.y3 v.lower).reverse, T1 p v⟩, enc p.n v.right, enc p.n v.left⟩ :=
  dec_known (y0 := v.left) (y5 := v.upper) T1_knows (xz2 _ _ _) (xz2 _ _ _) (xz3 _ _) (xz3 _ _)
theorem encM0 (o : v.Ok) (pa : p.ans = v.ans) : rounds p v.mine v.e v.S ⟨⟨[], []⟩, enc p.n v.left, enc p.n v.right⟩ [0, 1, 2, 3] = ⟨⟨cqs p v.mine v.e v.S v.right v.y2 v.y3 v.lower, T1 p v⟩, enc p.n v.lower, enc p.n v.upper⟩ := by
  obtain ⟨h0, h1, h2, h3⟩ := ans_0 o pa
  have := enc_new (p := p) (pw := v.mine) (e := v.e) (S := v.S) (asked := []) (t := []) (y0 := v.left) (y1 := v.right) (y2 := v.y2) (y3 := v.y3) (y4 := v.lower) (y5 := v.upper) (newFor_nil) h0 h1 h2 h3 rfl rfl (xz1 _ _ _) (xz1 _ _ _)
  simpa [T1] using this

theorem T1_wf : (⟨asked, T1 p v⟩ : Sig).Wf p.n := by
  intro x hx
  simp only [T1, newT, List.mem_cons, List.not_mem_nil, or_false] at hx
  rcases hx with rfl | rfl | rfl | rfl <;> exact enc_length _ _

set_option maxHeartbeats 4000000 in
/-- items 22 to 24: the class does just so -/
theorem law22 {Q : Flow → Shared → Prop} {fA bA : Addr} {ysf ysb : List Value} (S : LSt prog w p g b0 L σ m cm s.heap s.gens) (hσ : σ = ⟨cqs p v.mine v.e v.S v.right v.y2 v.y3 v.lower ++ (cqs p v.mine v.e v.S v.right v.y2 v.y3 v.lower).reverse, T1 p v⟩) (B : Bg K mg mb p v L fQ cQ g) (N : Nm v p fQ m) (Kc : Cm v p cm) (hbD : ∀ a ∈ p.D, b0.get? a = none) (hb0 : b0.get? L = none) (hfr : A.frames = some [envL L]) (hroom : A.depth + 250 < recursionLimit) (hun : A.units + 250 < cLine) (hh : A.handled = none)
    (hfi : cm "first" = some (.ref fA)) (hbk : m "back" = some (.ref bA)) (X : FB prog w p v g fA bA ysf ysb)
    (hQ : ∀ h' k gs m', AllBare gs → Fr b0 L h' m' → XT h' → (∃ ps, h'.get? 143 = some (tabObj ps)) → Q (.ret (.bool true)) { s with heap := h', toks := k, gens := gs }) :
    wpAny (model prog w) A (execs (rest 22) (envL L)) Q E s := by
  subst hσ
  obtain ⟨te, he⟩ := Kc.exponent
  obtain ⟨tsec, hsec⟩ := N.secret
  obtain ⟨tmi, hmi⟩ := N.mine
  obtain ⟨tid, hid⟩ := N.identifier
  have hmine := B.vo.mine
  have hident := B.vo.ident
  have he16 := B.vo.e16
  have hls : v.secret.length = 2 * p.n := by simp [Vl.secret, enc_length, B.pn]; omega
  have hlw : v.wanted.length = 2 * p.n := by simp [Vl.wanted, enc_length, B.pn]; omega
  have G := B.G.keeps S.C.keep
  have M := B.M.keeps S.C.keep
  have e8 : (cqs p v.mine v.e v.S v.right v.y2 v.y3 v.lower ++ (cqs p v.mine v.e v.S v.right v.y2 v.y3 v.lower).reverse).length = 8 := by simp [cqs]
  refine wpAny_execs_cons ?_
  walk_at "mw"
  refine MethodCall_ (nmG G B.M.n_c (meth_from B.M S.C.keep fun q h₁ K₁ hq => ?_))
  have S₁ := S.kp K₁
  have M₁ := M.keeps K₁
  refine callWith_Mr (self := .ref 104) M₁.kf.fn91 ?_
  walk_at "mw"
  refine nmL S₁.F hsec ?_
  walk_at "mw"
  refine nmL S₁.F hmi ?_
  walk_at "mw"
  refine nmL S₁.F hid ?_
  walk_at "mw"
  refine nmX S₁.X Kc.flag ?_
  walk_at "mw"
  refine nmX S₁.X he ?_
  walk_at "mw"
  refine nmL S₁.F N.stretch (wpAny_items_nil ⟨⟨hq, M₁.k⟩, ?_⟩)
  refine from_master_call (t4 := tid) (t3 := te) B.G B.M B.P S₁.C hq S₁.gens (by walk_at "dp") (by walk_at "dp") hh (by rw [e8]; omega) (by show (T1 p v).length ≤ 900; rw [T1_len]; omega) T1_wf hls (by walk_at "dp") (by walk_at "dp") (by walk_at "dp") fun x r h₂ t₂ k₂ gs₂ hx KB₂ hg₂ X₂ I₂ => ?_
  have S₂ := S₁.kpb B KB₂ X₂ hg₂ hbD
  have hxe : x = ⟨⟨cqs p v.mine v.e v.S v.right v.y2 v.y3 v.lower ++ (cqs p v.mine v.e v.S v.right v.y2 v.y3 v.lower).reverse ++ cqs p v.mine v.e v.S v.right v.y2 v.y3 v.lower, T1 p v⟩, enc p.n v.lower, enc p.n v.upper⟩ := by
    rw [hx, Vl.secret, ← B.pn, cut_l, cut_r]
    exact encM
  have hct : x.r ++ x.l = v.wanted := by rw [hxe]; simp [Vl.wanted, B.pn]
  rw [hct] at I₂
  obtain ⟨dx, I₂, fr₂⟩ := I₂
  have new1 : ∀ b o, s.heap.get? b = some o → b ≠ r ∧ b ≠ dx := fun b o e => fr₂ b o (K₁ _ _ e)
  obtain ⟨oL, _, _, eL, _⟩ := id S.F.ns
  have nL := new1 L oL eL
  refine stLw S₂ B fun h₃ S₃ D₃ => ?_
  have N₃ := N.set (x := "hidden") (u := .ref r)
  have I₃ : InstD h₃ r dx _ _ _ _ := I₂.at fun b o hb e => D₃.extBut b o (by
    rcases hb with rfl | rfl
    · exact Ne.symm nL.1
    · exact Ne.symm nL.2) e
  dsimp only at S₃ ⊢
  have S₃' : LSt prog w p g b0 L x.σ (fun y => if y = "hidden" then some (.ref r) else m y) cm h₃ gs₂ := S₃
  obtain ⟨g', B', S', Kg, hold⟩ := rebase B S₃' own_nd
  have apart : ∀ b, (∀ a o, s.heap.get? a = some o → a ≠ b) → (b ∉ p.D ∧ b ≠ L ∧ ∀ n c, (ownL L).lookup n = some c → b ≠ c) := fun b h => by
    refine ⟨fun hm => ?_, fun q => h L oL eL q.symm, fun n c hc q => ?_⟩
    · obtain ⟨o, e⟩ := S.C.exD b hm
      exact h b o e rfl
    · obtain ⟨o, e, _⟩ := S.X.cell n c hc
      exact h c o e q.symm
  have I' : InstOf g' r (.int (v.ident : Int) tid) (.bool v.flag) (.int (v.e : Int) te) (.bytes v.wanted.toArray t₂) := ⟨dx, I₃.at fun b o hb e => hold b o e (by
    rcases hb with rfl | rfl
    · exact apart _ fun a o e => (new1 a o e).1
    · exact apart _ fun a o e => (new1 a o e).2)⟩
  have X' := X.keeps Kg
  have I3' := I'.keeps S'.C.keep
  obtain ⟨tid3, hid3⟩ := N₃.identifier
  obtain ⟨twa3, hwa3⟩ := N₃.wanted
  obtain ⟨tse3, hse3⟩ := N₃.secret
  obtain ⟨tmi3, hmi3⟩ := N₃.mine
  have G' := B'.G.keeps S'.C.keep
  -- item 23
  refine wpAny_execs_cons ?_
  walk_at "mw"
  refine wpAny_isTrue_BoolOp (wpAny_allTrue_Or_cons ?_)
  walk_at "mw"
  refine wpAny_Tuple ?_
  walk_at "mw"
  refine Attribute_Name_ (nmL S'.F rfl (get_identifier B'.M S'.C.keep I3' rfl ?_))
  walk_at "mw"
  refine Attribute_Name_ (nmL S'.F rfl (get_extendable B'.M S'.C.keep I3' rfl ?_))
  walk_at "mw"
  refine Attribute_Name_ (nmL S'.F rfl (get_exponent B'.M S'.C.keep I3' rfl ?_))
  refine wpAny_items_nil ⟨by rw [sizeLine_eq]; simp, ?_⟩
  dsimp only
  generalize hH4 : (h₃.push { cls := .type "tuple", data := .seq [Value.int (v.ident : Int) tid, .bool v.flag, .int (v.e : Int) te].toArray }) = h₄
  have K₄ : Kp h₃ h₄ := fun b o e => hH4 ▸ Heap.get?_push_of_some _ e
  have hT₄ : h₄.IsTuple h₃.objs.size [Value.int (v.ident : Int) tid, .bool v.flag, .int (v.e : Int) te].toArray := hH4 ▸ ⟨_, Heap.get?_push_size _ rfl, rfl, _, rfl⟩
  have S₄ := S'.kp K₄
  refine wpAny_Tuple ?_
  walk_at "mw"
  refine nmL S₄.F hid3 ?_
  walk_at "mw"
  refine nmX S₄.X Kc.flag ?_
  walk_at "mw"
  refine nmX S₄.X he (wpAny_items_nil ⟨by rw [sizeLine_eq]; simp, ?_⟩)
  dsimp only
  generalize hH5 : (h₄.push { cls := .type "tuple", data := .seq [Value.int (v.ident : Int) tid3, .bool v.flag, .int (v.e : Int) te].toArray }) = h₅
  have K₅ : Kp h₄ h₅ := fun b o e => hH5 ▸ Heap.get?_push_of_some _ e
  have hT₅ : h₅.IsTuple h₄.objs.size [Value.int (v.ident : Int) tid3, .bool v.flag, .int (v.e : Int) te].toArray := hH5 ▸ ⟨_, Heap.get?_push_size _ rfl, rfl, _, rfl⟩
  have S₅ := S₄.kp K₅
  have hT₄₅ : h₅.IsTuple h₃.objs.size [Value.int (v.ident : Int) tid, .bool v.flag, .int (v.e : Int) te].toArray := let ⟨o, ho, r⟩ := hT₄; ⟨o, K₅ _ _ ho, r⟩
  have ne : ∀ sx : Shared, sx.heap = h₅ → ∀ Q' : Value → Shared → Prop, Q' (.bool false) sx → wpAny (model prog w) A (compareOp .NotEq (.ref h₃.objs.size) (.ref h₄.objs.size)) Q' E sx := by
    rintro sx rfl Q' hQ'
    refine (SeqAt.RcNeAt.tuples (A := A) (s := sx) (e := fun _ => true) hT₄₅ hT₅ (by walk_at "dp") fun j h1 h2 => ?_) prog w E Q' (by simpa [List.range_succ] using hQ')
    match j with
    | 0 => simpa using SeqAt.EqAt.int_int (A := A.in1) (s := sx) (v.ident : Int) tid (v.ident : Int) tid3
    | 1 => simpa using SeqAt.EqAt.bool_bool (A := A.in1) (s := sx) v.flag v.flag
    | 2 => simpa using SeqAt.EqAt.int_int (A := A.in1) (s := sx) (v.e : Int) te (v.e : Int) te
    | j + 3 => exact absurd h1 (by simp)
  refine ne _ rfl _ (wpAny_truthy_bool ?_)
  rw [if_neg (by decide)]
  have G₅ := G'.keeps fun b o e => K₅ _ _ (K₄ _ _ e)
  have I₅ := I'.keeps S₅.C.keep
  refine wpAny_allTrue_Or_cons (wpAny_isTrue_Not (wpAny_isTrue_value ?_))
  walk_at "mw"
  refine nmB G₅ (B.G.free _ (by decide)) (by boot_fast) ?_
  walk_at "mw"
  walk_at "mw"
  refine Attribute_Name_ (nmL S₅.F rfl (get_extendable B'.M S₅.C.keep I₅ rfl ?_))
  walk_at "mw"
  refine nmB G₅ (B.G.free _ (by decide)) (by boot_fast) ?_
  refine wpAny_items_nil (isi_bool fun tk => wpAny_truthy_bool ?_)
  rw [show (!true) = false from rfl, if_neg (by decide)]
  refine wpAny_allTrue_Or_cons (wpAny_isTrue_Not (wpAny_isTrue_value ?_))
  walk_at "mw"
  refine nmG G₅ G₅.n_ls (callWith_F G₅.f_ls.at ?_)
  walk_at "mw"
  refine Attribute_Name_ (nmL S₅.F rfl (get_ciphertext B'.M S₅.C.keep I₅ rfl ?_))
  walk_at "mw"
  refine nmL S₅.F hwa3 (wpAny_items_nil ⟨G₅.f_ls.at, ?_⟩)
  refine law_same_call (b := v.wanted.toArray) (c := v.wanted.toArray) G₅ (by walk_at "dp") fun h₆ k₆ K₆ => wpAny_truthy_bool ?_
  dsimp only
  rw [show (v.wanted == v.wanted) = true by simp, show (!true) = false from rfl, if_neg (by decide)]
  refine wpAny_allTrue_Or_nil ?_
  rw [if_neg (by decide)]
  have S₆ := S₅.kp K₆
  have I₆ := I'.keeps S₆.C.keep
  have M₆ := B'.M.keeps S₆.C.keep
  have G₆ := G₅.keeps K₆
  refine wpAny_execs_nil ?_
  -- item 24
  refine wpAny_execs_cons ?_
  walk_at "mw"
  refine wpAny_isTrue_BoolOp (wpAny_allTrue_Or_cons (wpAny_isTrue_Not (wpAny_isTrue_value ?_)))
  walk_at "mw"
  refine nmG G₆ G₆.n_ls (callWith_F G₆.f_ls.at ?_)
  walk_at "mw"
  refine MethodCall_ (nmL S₆.F rfl (meth_decrypt B'.M S₆.C.keep I₆ ?_))
  refine callWith_F M₆.m_d.at ?_
  walk_at "mw"
  refine nmL S₆.F hmi3 ?_
  walk_at "mw"
  refine nmL S₆.F N₃.stretch (wpAny_items_nil ⟨M₆.m_d.at, ?_⟩)
  have hask : x.σ.asked.length = 12 := by rw [hxe]; simp [cqs]
  have htab : x.σ.table = T1 p v := by rw [hxe]
  have hxw : x.σ.Wf p.n := by rw [hxe]; exact T1_wf
  refine dec_m_call (t4 := tid) (t3 := te) (flag := v.flag) (ident := v.ident) B'.G B'.M B'.P S₆.C I₆ S₆.gens (by walk_at "dp") (by walk_at "dp") hh (by walk_at "dp") (by rw [htab, T1_len]; omega) hxw hlw (by walk_at "dp") (by walk_at "dp") (by walk_at "dp") fun x2 h₇ t₇ k₇ gs₇ hx2 KB₇ hg₇ X₇ => ?_
  have S₇ := S₆.kpb B' KB₇ X₇ hg₇ hbD
  have hx2e : x2 = ⟨⟨cqs p v.mine v.e v.S v.right v.y2 v.y3 v.lower ++ (cqs p v.mine v.e v.S v.right v.y2 v.y3 v.lower).reverse ++ cqs p v.mine v.e v.S v.right v.y2 v.y3 v.lower ++ (cqs p v.mine v.e v.S v.right v.y2 v.y3 v.lower).reverse, T1 p v⟩, enc p.n v.right, enc p.n v.left⟩ := by
    rw [hx2, hxe, Vl.wanted, ← B.pn, cut_l, cut_r]
    exact decM
  have hout : x2.r ++ x2.l = v.secret := by rw [hx2e]; simp [Vl.secret, B.pn]
  have G₇ := B'.G.keeps S₇.C.keep
  walk_at "mw"
  refine nmL S₇.F hse3 (wpAny_items_nil ⟨G₇.f_ls.at, ?_⟩)
  refine law_same_call (b := (x2.r ++ x2.l).toArray) (c := v.secret.toArray) G₇ (by walk_at "dp") fun h₈ k₈ K₈ => wpAny_truthy_bool ?_
  dsimp only
  rw [hout, show (v.secret == v.secret) = true by simp, show (!true) = false from rfl, if_neg (by decide)]
  have S₈ := S₇.kp K₈
  refine wpAny_allTrue_Or_cons ?_
  walk_at "mw"
  refine nmX S₈.X Kc.asked ?_
  have X₈ := X'.keeps S₈.C.keep
  walk_at "mw"
  walk_at "mw"
  walk_at "mw"
  refine nmX S₈.X hfi (nmL S₈.F hbk (ladd_raw X₈.f.isList X₈.b.isList (by rw [X.fa.length, X.ba.length]; simp [cqs]) fun h₉ K₉ hl₉ => ?_))
  have S₉ := S₈.kp K₉
  have X₉ := X₈.keeps K₉
  have a₉ := (X₉.fa.app X₉.ba)
  refine nmX S₉.X hfi (ladd_raw hl₉.isList X₉.f.isList (by rw [List.length_append, X.fa.length, X.ba.length]; simp [cqs]) fun h₁₀ K₁₀ hl₁₀ => ?_)
  have S₁₀ := S₉.kp K₁₀
  have X₁₀ := X₉.keeps K₁₀
  have a₁₀ := (X₁₀.fa.app X₁₀.ba).app X₁₀.fa
  refine nmL S₁₀.F hbk (ladd_raw hl₁₀.isList X₁₀.b.isList (by rw [List.length_append, List.length_append, X.fa.length, X.ba.length]; simp [cqs]) fun h₁₁ K₁₁ hl₁₁ => ?_)
  have S₁₁ := S₁₀.kp K₁₁
  have X₁₁ := X₁₀.keeps K₁₁
  have a₁₁ := ((X₁₁.fa.app X₁₁.ba).app X₁₁.fa).app X₁₁.ba
  obtain ⟨vs, hvl, hva⟩ := id S₁₁.C.asked
  rw [hx2e] at hva
  refine ne_tqs hvl.isList hl₁₁.isList hva a₁₁ (by walk_at "dp") (wpAny_truthy_bool ?_)
  rw [if_neg (by decide)]
  refine wpAny_allTrue_Or_nil ?_
  rw [if_neg (by decide)]
  refine wpAny_execs_nil ?_
  exact law25 (s := { s with heap := h₁₁, toks := k₈, gens := gs₇ }) S₁₁ B' N₃ Kc hbD hb0 hfr hroom hun hh (by rw [hx2e]; simp [cqs]) (by rw [hx2e]) (by rw [hx2e]; exact T1_wf) hbk X'.b X'.ba hQ
end
end

section
set_option linter.unusedVariables false
set_option maxRecDepth 8000
section
variable {prog : Program} {w : World} {A : Around} {E : Value → Shared → Prop} {s : Shared} {L fQ cQ : Addr} {b0 : Heap} {m cm mg mb : Str → Option Value} {p : Pm} {g : Heap} {σ σ' : Sig} {v : Vl} {K : Frag}



theorem LSt.ext {h h' : Heap} {gs : Array GenState} {m' : Str → Option Value} (S : LSt prog w p g b0 L σ m cm h gs) (B : Bg K mg mb p v L fQ cQ g) (hb0 : b0.get? L = none) (ns : h'.Ns L m') (e : Heap.ExtBut L h h') : LSt prog w p g b0 L σ m' cm h' gs := by
  obtain ⟨o, es, ep, ho, hd, _⟩ := id S.F.ns
  exact ⟨⟨ns, fun b o q => e _ _ (fun z => by rw [z, hb0] at q; cases q) (S.F.keep _ _ q), S.F.above⟩, S.X.extBut e (Nat.le_refl _), S.C.ext e B.fL.g B.fL.a B.fL.t B.fL.x B.fL.c ⟨o, ho, .inl ⟨es, ep, hd⟩⟩, S.gens⟩

/-- x = [an element for each number below n] -/
theorem Assign_ListComp_range {env : Env} {elt iter : PySem.Expr} {x y : Str} {px py : Pos} {scope : Scope} {cl : List (Str × Addr)} {pos spos : Pos} {Q : Flow → Shared → Prop} {n : Nat} (R : Nat → Value → Prop)
    (hh : A.handled = none) (hn : n ≤ 1000) (hclos : closureFor scope env = pure cl) (hns : s.heap.Ns env.locals m)
    (hit : ∀ Q', (∀ r h' t u v k, IsRange h' r 0 n 1 t u v → Kp s.heap h' → Q' (.ref r) { s with heap := h', toks := k }) → wpAny (model prog w) A (eval iter env) Q' E s)
    (helt : ∀ C (i : Nat) t (s₃ : Shared) m₃ E', i < n → s₃.heap.Ns C m₃ → m₃ x = some (.int (i : Int) t) → Kp s.heap s₃.heap →
      wpAny (model prog w) A (eval elt (compEnvC scope cl C env)) (fun y s₄ => R i y ∧ Keeps s₃ s₄) E' s₃)
    (h : ∀ D h' tk (ys : List Value), s.heap.get? D = none → h'.PlainList D ys.toArray → ys.length = n → (∀ (i : Nat) v, ys[i]? = some v → R i v) → h'.Ns env.locals (fun z => if z = y then some (.ref D) else m z) → Heap.ExtBut env.locals s.heap h' → Q .next { s with heap := h', toks := tk })
    (hsw : swapsWith (.ListComp elt [⟨.Name x px, iter, [], 0⟩] scope pos) (some (.Name y py)) spos.line env = pure true := by rfl)
    (hy : env.kindOf y = some .local := by rfl) (hp : (env.scope.kind == .class || (env.scope.kind == .module && env.locals != env.globals)) = false := by rfl)
    (hcell : ∀ y ∈ scope.names, y.2 ≠ .cell := by decide) (hkind : scope.kind = .function := by rfl)
    (hnames : ∀ y ∈ scope.names, y.2 = .local → scope.names.lookup y.1 = some .local := by decide) (hx : scope.names.lookup x = some .local := by rfl)
    (hs : ∀ x, foldedSetIterable iter env x = pure x := by intro _; rfl) :
    wpAny (model prog w) A (exec (.Assign [.Name y py] (.ListComp elt [⟨.Name x px, iter, [], 0⟩] scope pos) spos) env) Q E s := by
  refine wpAny_Assign_ListComp_free (cl := cl) (fun _ => true) (fun v y => ∃ (i : Nat) (t : Tok), v = .int (i : Int) t ∧ R i y) hsw hclos hcell hkind hnames hx hy hp (hit _ fun r h' t u v k hr hk => ?_) hs
  refine wpAny_pyIter_range hr (small_one (by walk_at "dp") (by walk_at "dp") (by walk_at "dp") (by walk_at "dp")) ?_
  have hsz : Builtin.Range.rangeSize 0 (n : Int) 1 = (n : Int) := by rw [rangeSize_one]; split <;> omega
  rw [hsz]
  have hI : IsRangeIter (h'.push { cls := .type "range_iterator", data := .fields #[rawInt 0, rawInt (n : Int), rawInt 1] }) h'.objs.size (0 + ((0 : Nat) : Int) * 1) ((n : Int) - ((0 : Nat) : Int)) 1 := by
    show Heap.get? _ _ = _
    rw [Heap.get?_push_size _ rfl]
    simp [rawInt]
  have hk' : Kp s.heap (h'.push { cls := .type "range_iterator", data := .fields #[rawInt 0, rawInt (n : Int), rawInt 1] }) := fun b o e => Heap.get?_push_of_some _ (hk b o e)
  have old : ∀ (g : Heap), (∀ b o, b ∉ [h'.objs.size] → (h'.push { cls := .type "range_iterator", data := .fields #[rawInt 0, rawInt (n : Int), rawInt 1] }).get? b = some o → g.get? b = some o) → Kp s.heap g := fun g hg b o e =>
    hg b o (fun hm => by
      have hb := Heap.lt_size (hk b o e)
      rw [List.mem_singleton.mp hm] at hb
      exact Nat.lt_irrefl _ hb) (hk' b o e)
  refine ⟨_, _, _, n, _, _, m, rfl, (Walks.range hh h'.objs.size 0 1 n).bound, by rw [sizeLine_eq]; omega, hI, ?_, ?_, hns.keeps hk', ⟨?_, ?_⟩, ?_⟩
  · intro b hb
    rw [List.mem_singleton.mp hb]
    show _ < (Heap.push _ _).objs.size
    rw [Heap.size_push]; exact Nat.lt_succ_self _
  · intro hm
    have hb := (hns.keeps hk).lt
    rw [List.mem_singleton.mp hm] at hb
    exact Nat.lt_irrefl _ hb
  · intro C i v s₃ m₃ E' hC hP hN hm hk3 htk
    exact wpAny_pure ⟨rfl, ⟨s₃.heap, s₃.toks, rfl, fun _ _ e => e⟩⟩
  · intro C i v s₃ m₃ E' hC hP hp hN hm hk3 htk
    obtain ⟨hi, t', rfl⟩ := hP
    have hm' : m₃ x = some (.int (i : Int) t') := by rw [hm]; congr 2; omega
    exact wpAny_mono (helt C i t' s₃ m₃ E' hi hN hm' (old _ hk3)) (fun y s₄ hy => ⟨⟨i, t', by congr 1; omega, hy.1⟩, hy.2⟩) fun _ _ e => e
  · intro D h'' tk ys vs hD hl hpl hlen hP hF hns'' hk3
    have hf : vs.filter (fun _ => true) = vs := List.filter_eq_self.mpr fun _ _ => rfl
    rw [hf] at hF
    obtain ⟨hlen2, hR⟩ := paired_ex (n := n) 0 hF fun j v e => by
      obtain ⟨a, t, b⟩ := hP j v e
      exact ⟨by omega, t, by rw [b, Nat.zero_add]⟩
    refine h D h'' tk ys.toList ?_ (by rw [Array.toArray_toList]; exact hpl) (by rw [hlen2, hlen]) (fun i v e => by have := hR i v e; rwa [Nat.zero_add] at this) hns'' fun b o hb e => hk3 b o hb (fun hm => by
      have hb' := Heap.lt_size (hk b o e)
      rw [List.mem_singleton.mp hm] at hb'
      exact Nat.lt_irrefl _ hb') (hk' b o e)
    cases q : s.heap.get? D with
    | none => rfl
    | some o => have := hk' D o q; rw [hD] at this; cases this

set_option maxHeartbeats 4000000 in
/-- items 19 to 21: the wanted ciphertext, and back -/
theorem law19 {Q : Flow → Shared → Prop} {fA bA : Addr} {ysf ysb : List Value} (S : LSt prog w p g b0 L ⟨[], []⟩ m cm s.heap s.gens) (B : Bg K mg mb p v L fQ cQ g) (N : Nm v p fQ m) (Kc : Cm v p cm) (hbD : ∀ a ∈ p.D, b0.get? a = none) (hb0 : b0.get? L = none) (hfr : A.frames = some [envL L]) (hroom : A.depth + 250 < recursionLimit) (hun : A.units + 250 < cLine) (hh : A.handled = none)
    (hfi : cm "first" = some (.ref fA)) (hbk : m "back" = some (.ref bA)) (X : FB prog w p v g fA bA ysf ysb)
    (hQ : ∀ h' k gs m', AllBare gs → Fr b0 L h' m' → XT h' → (∃ ps, h'.get? 143 = some (tabObj ps)) → Q (.ret (.bool true)) { s with heap := h', toks := k, gens := gs }) :
    wpAny (model prog w) A (execs (rest 19) (envL L)) Q E s := by
  obtain ⟨tsec, hsec⟩ := N.secret
  obtain ⟨tmi, hmi⟩ := N.mine
  obtain ⟨tid, hid⟩ := N.identifier
  have hmine := B.vo.mine
  have hident := B.vo.ident
  have hls : v.secret.length = 2 * p.n := by simp [Vl.secret, enc_length, B.pn]; omega
  have hlw : v.wanted.length = 2 * p.n := by simp [Vl.wanted, enc_length, B.pn]; omega
  refine wpAny_execs_cons ?_
  walk_at "mw"
  refine law_encrypt S B Kc N hbD hsec hmi hid hls (by walk_at "dp") (by walk_at "dp") (by walk_at "dp") (by walk_at "dp") hh (by simp) (by simp) (fun x hx => by simp at hx) fun x h₁ t₁ k₁ gs₁ hx S₁ KB₁ => ?_
  have hxe : x = ⟨⟨cqs p v.mine v.e v.S v.right v.y2 v.y3 v.lower, T1 p v⟩, enc p.n v.lower, enc p.n v.upper⟩ := by
    rw [hx, Vl.secret, ← B.pn, cut_l, cut_r]
    exact encM0 B.vo B.pa
  have hout : x.r ++ x.l = v.wanted := by rw [hxe]; simp [Vl.wanted, B.pn]
  refine stLw S₁ B fun h₂ S₂ _ => ?_
  have N₂ := N.set (x := "told") (u := .bytes (x.r ++ x.l).toArray t₁)
  dsimp only at S₂ ⊢
  obtain ⟨twa, hwa⟩ := N₂.wanted
  obtain ⟨tmi2, hmi2⟩ := N₂.mine
  obtain ⟨tid2, hid2⟩ := N₂.identifier
  refine wpAny_execs_cons ?_
  walk_at "mw"
  refine law_decrypt S₂ B Kc N₂ hbD hwa hmi2 hid2 hlw (by walk_at "dp") (by walk_at "dp") (by walk_at "dp") (by walk_at "dp") hh (by rw [hxe]; simp [cqs]) (by rw [hxe]; show (T1 p v).length ≤ 900; rw [T1_len]; omega) (by rw [hxe]; exact T1_wf) fun x2 h₃ t₃ k₃ gs₃ hx2 S₃ KB₃ => ?_
  have hx2e : x2 = ⟨⟨cqs p v.mine v.e v.S v.right v.y2 v.y3 v.lower ++ (cqs p v.mine v.e v.S v.right v.y2 v.y3 v.lower).reverse, T1 p v⟩, enc p.n v.right, enc p.n v.left⟩ := by
    rw [hx2, hxe, Vl.wanted, ← B.pn, cut_l, cut_r]
    exact decM
  have hout2 : x2.r ++ x2.l = v.secret := by rw [hx2e]; simp [Vl.secret, B.pn]
  refine stLw S₃ B fun h₄ S₄ _ => ?_
  have N₄ := N₂.set (x := "opened") (u := .bytes (x2.r ++ x2.l).toArray t₃)
  dsimp only at S₄ ⊢
  obtain ⟨twa4, hwa4⟩ := N₄.wanted
  obtain ⟨tse4, hse4⟩ := N₄.secret
  refine wpAny_execs_cons ?_
  walk_at "mw"
  refine wpAny_isTrue_BoolOp (wpAny_allTrue_Or_cons (wpAny_isTrue_Not (wpAny_isTrue_value (ev_same (x1 := "told") S₄ B (by walk_at "dp") rfl hwa4 fun h₅ k₅ K₅ => wpAny_truthy_bool ?_))))
  rw [hout, show (v.wanted == v.wanted) = true by simp, show (!true) = false from rfl, if_neg (by decide)]
  have S₅ := S₄.kp K₅
  refine wpAny_allTrue_Or_cons (wpAny_isTrue_Not (wpAny_isTrue_value (ev_same (x1 := "opened") S₅ B (by walk_at "dp") rfl hse4 fun h₆ k₆ K₆ => wpAny_truthy_bool ?_)))
  rw [hout2, show (v.secret == v.secret) = true by simp, show (!true) = false from rfl, if_neg (by decide)]
  have S₆ := S₅.kp K₆
  have X₆ := X.keeps S₆.C.keep
  refine wpAny_allTrue_Or_cons ?_
  walk_at "mw"
  refine nmX S₆.X Kc.asked ?_
  walk_at "mw"
  refine nmX S₆.X hfi (nmL S₆.F hbk (ladd_raw X₆.f.isList X₆.b.isList (by rw [X.fa.length, X.ba.length]; simp [cqs]) fun h₇ K₇ hl₇ => ?_))
  have S₇ := S₆.kp K₇
  have X₇ := X₆.keeps K₇
  obtain ⟨vs, hvl, hva⟩ := id S₇.C.asked
  rw [hx2e] at hva
  refine ne_tqs hvl.isList hl₇.isList hva (X₇.fa.app X₇.ba) (by walk_at "dp") (wpAny_truthy_bool ?_)
  rw [if_neg (by decide)]
  refine wpAny_allTrue_Or_nil ?_
  rw [if_neg (by decide)]
  refine wpAny_execs_nil ?_
  exact law22 (s := { s with heap := h₇, toks := k₆, gens := gs₃ }) S₇ (by rw [hx2e]) B N₄ Kc hbD hb0 hfr hroom hun hh hfi hbk X hQ

set_option maxHeartbeats 4000000 in
/-- items 17 and 18: the questions due -/
theorem law17 {Q : Flow → Shared → Prop} {rA : Addr} {vr : List Value} (S : LSt prog w p g b0 L ⟨[], []⟩ m cm s.heap s.gens) (B : Bg K mg mb p v L fQ cQ g) (N : Nm v p fQ m) (Kc : Cm v p cm) (hbD : ∀ a ∈ p.D, b0.get? a = none) (hb0 : b0.get? L = none) (hfr : A.frames = some [envL L]) (hroom : A.depth + 250 < recursionLimit) (hun : A.units + 250 < cLine) (hh : A.handled = none)
    (hrows : m "rows" = some (.ref rA)) (hrl : g.IsList rA vr.toArray) (hri : IntsAre vr (v.r.map fun r : Nat => (r : Int)))
    (hQ : ∀ h' k gs m', AllBare gs → Fr b0 L h' m' → XT h' → (∃ ps, h'.get? 143 = some (tabObj ps)) → Q (.ret (.bool true)) { s with heap := h', toks := k, gens := gs }) :
    wpAny (model prog w) A (execs (rest 17) (envL L)) Q E s := by
  obtain ⟨tmi, hmi⟩ := N.mine
  obtain ⟨tid, hid⟩ := N.identifier
  have hmine := B.vo.mine
  have hident := B.vo.ident
  have hvr : vr.length = 10 := by rw [hri.length, List.length_map, B.vo.len]
  have row : ∀ i, i < 10 → ∃ t, vr[i]? = some (.int ((v.ri i : Nat) : Int) t) := fun i hi => by
    obtain ⟨x, tx, e, hx⟩ := IntsAre.at hri i vr[i] (List.getElem?_eq_getElem (by walk_at "dp"))
    have hl := B.vo.len
    rw [List.getElem?_map, List.getElem?_eq_getElem (by walk_at "dp")] at hx
    simp only [Option.map_some, Option.some.injEq] at hx
    refine ⟨tx, ?_⟩
    rw [List.getElem?_eq_getElem (by walk_at "dp"), e, ← hx]
    unfold Vl.ri
    rw [List.getD, List.getElem?_eq_getElem (by walk_at "dp")]; rfl
  obtain ⟨tr0, er0⟩ := row 0 (by decide)
  obtain ⟨tr1, er1⟩ := row 1 (by decide)
  have tl2 : ∀ {x1 : Str} {p1 p2 p3 p4 pl : Pos} {kk : Nat} {a1 i : Nat} {ti : Tok}, (∃ t, m x1 = some (.int (a1 : Int) t)) → (envL L).kindOf x1 = some .local → (x1 == ("__debug__" : Str)) = false → i < 10 → vr[i]? = some (.int ((v.ri i : Nat) : Int) ti) →
      Tells prog w A E p g b0 L ⟨[], []⟩ m cm s pl [.Name x1 p1, .Subscript (.Name "rows" p2) (.Constant (.int (i : Int)) kk p3) p4] [a1, v.ri i] := by
    intro x1 p1 p2 p3 p4 pl kk a1 i ti h1 k1 d1 hi e s' S' _ Q' hQ'
    obtain ⟨t1, h1⟩ := h1
    walk_at "mw"
    refine nmL S'.F h1 ?_ rfl k1 d1
    walk_at "mw"
    refine Subscript_ (nmL S'.F hrows ?_)
    walk_at "mw"
    refine item_list (isList_kp hrl S'.C.keep) (by walk_at "dp") (by walk_at "dp") (x := .int ((v.ri i : Nat) : Int) ti) (by simpa using e) ?_
    exact wpAny_items_nil (hQ' _ _ (.cons _ _ (.cons _ _ .nil)))
  refine wpAny_execs_cons ?_
  walk_at "mw"
  refine ev_questions S B Kc N hmi hid (by walk_at "dp") (by walk_at "dp") (by walk_at "dp") hh (tells1 N.right) (tl2 N.left rfl (by decide) (by decide) er0) (tl2 N.right rfl (by decide) (by decide) er1) (tells1 N.lower)
    (all1 B.vo.right) (all2 B.vo.left (B.vo.ri 0)) (all2 B.vo.right (B.vo.ri 1)) (all1 B.vo.lower) (by simp) (by simp) (by simp) (by simp) fun D h₁ k₁ ys hD hl₁ ha₁ K₁ => ?_
  rw [xor1, xor2, xor2, xor1] at ha₁
  have S₁ := S.kp K₁
  refine stCw S₁ B rfl (Nat.add_lt_add_left (by decide) _) fun h₂ S₂ D₂ => ?_
  have Kc₂ := Kc.set (x := "first") (u := .ref D)
  have nD := S.new hD
  have hl₂ : h₂.PlainList D ys.toArray := let ⟨c, e⟩ := hl₁; ⟨c, D₂.extBut _ _ (nD.2.2 "first" _ rfl) e⟩
  have hcs : h₂.IsCell (L + 2) (some (.ref D)) := S₂.X.cell "first" _ rfl
  obtain ⟨oc, hoc, hdc⟩ := S₁.X.cell "first" _ rfl
  have ha₂ : All2 (IsTq prog w h₂) ys (cqs p v.mine v.e v.S v.right v.y2 v.y3 v.lower) := ha₁.imp fun _ _ t => tq_st t hoc (.inr fun _ _ q => by rw [hdc] at q; cases q) D₂.extBut
  dsimp only
  have hys : ys.length = 4 := ha₂.length
  refine wpAny_execs_cons (Assign_ListComp_range (n := 4) (cl := [("first", L + 2)]) (fun i y => ys[3 - i]? = some y) hh (by decide) (by rfl) S₂.F.ns (fun Q' hQ' => ?_) (fun C i ti s₃ m₃ E' hi hN hm hk => ?_) fun D₄ h₄ tk₄ zs hD₄ hl₄ hlen₄ hR₄ ns₄ e₄ => ?_)
  · walk_at "mw"
    refine nmB (B.G.keeps S₂.C.keep) (B.G.free _ (by decide)) (by boot_fast) ?_
    refine PyProof.Rows.callWith_type1 ?_
    walk_at "mw"
    walk_at "mw"
    refine wpAny_items_nil (call_range_1 ?_)
    exact hQ' _ _ _ _ _ _ (IsRange.new _ _ _ _ _ _ _) fun b o e => Heap.get?_push_of_some _ e
  · refine Subscript_ (nmC (hcs.keeps hk) ?_)
    walk_at "mw"
    walk_at "mw"
    refine nmLN hN hm (sub_int ?_)
    obtain ⟨y, hy⟩ : ∃ y, ys[3 - i]? = some y := ⟨ys[3 - i]'(by walk_at "dp"), List.getElem?_eq_getElem (by walk_at "dp")⟩
    refine item_list (isList_kp hl₂.isList hk) (by walk_at "dp") (by walk_at "dp") (x := y) (by rw [← hy]; simp) ?_
    exact ⟨hy, _, _, rfl, fun _ _ e => e⟩
  · have S₄ : LSt prog w p g b0 L ⟨[], []⟩ (fun y => if y = "back" then some (.ref D₄) else m y) (fun y => if y = "first" then some (.ref D) else cm y) h₄ s.gens := S₂.ext B hb0 ns₄ e₄
    have N₄ := N.set (x := "back") (u := .ref D₄)
    have nD₄ := S₂.new hD₄
    obtain ⟨g', B', S', Kg, hold⟩ := rebase B S₄ own_nd
    obtain ⟨oL, _, _, eL, hdL, _⟩ := id S₂.F.ns
    have tq4 : ∀ {vs : List Value} {qs : List QK}, All2 (IsTq prog w h₂) vs qs → All2 (IsTq prog w h₄) vs qs := fun a => a.imp fun _ _ t => tq_st t eL (.inr fun _ _ q => by rw [hdL] at q; cases q) e₄
    obtain ⟨oA, hoA, hcA⟩ : ∃ o, h₄.get? p.aA = some o ∧ o.cls = .type "list" := by obtain ⟨_, ⟨_, e⟩, _⟩ := S₄.C.asked; exact ⟨_, e, rfl⟩
    obtain ⟨oT, hoT, hdT⟩ : ∃ o, h₄.get? p.tA = some o ∧ ∃ es ep, o.data = .dict es ep := by obtain ⟨_, ⟨_, _, _, e, _, d, _⟩, _⟩ := S₄.C.table; exact ⟨_, e, _, _, d⟩
    obtain ⟨o30, ho30, hc30⟩ : ∃ o, h₄.get? 30 = some o ∧ o.cls = .none := by obtain ⟨_, _, e⟩ := S₄.C.xt; exact ⟨_, e.2, rfl⟩
    obtain ⟨oL4, _, _, eL4, hdL4, _⟩ := id S₄.F.ns
    have apart : ∀ (a : Addr) (o : Obj) (it : Array Value) (n : Nat), h₄.get? a = some o → o.cls = .type "tuple" → o.data = .seq it n → (a ∉ p.D ∧ a ≠ L ∧ ∀ n c, (ownL L).lookup n = some c → a ≠ c) := by
      intro a o it n ho hc hd
      refine ⟨fun hm => ?_, fun q => ?_, fun n' c' hc' q => ?_⟩
      · simp only [Pm.D, List.mem_cons, List.not_mem_nil, or_false] at hm
        rcases hm with rfl | rfl | rfl
        · rw [hoA] at ho
          cases ho
          rw [hcA] at hc
          simp at hc
        · rw [hoT] at ho
          cases ho
          obtain ⟨_, _, q⟩ := hdT
          rw [hd] at q
          cases q
        · rw [ho30] at ho
          cases ho
          rw [hc30] at hc
          cases hc
      · rw [q, eL4] at ho
        cases ho
        rw [hd] at hdL4
        cases hdL4
      · obtain ⟨oc', e', d'⟩ := S₄.X.cell n' c' hc'
        rw [q, e'] at ho
        cases ho
        rw [d'] at hd
        cases hd
    have tqg : ∀ {vs : List Value} {qs : List QK}, All2 (IsTq prog w h₄) vs qs → All2 (IsTq prog w g') vs qs := fun a => a.imp fun _ _ ⟨a, e, o, it, n, ho, hc, hd, r⟩ => ⟨a, e, o, it, n, hold _ _ ho (apart a o it n ho hc hd), hc, hd, r⟩
    have hf' : g'.PlainList D ys.toArray := let ⟨c, e⟩ := hl₂; ⟨c, hold _ _ (e₄ _ _ nD.2.1 e) nD⟩
    have hb' : g'.PlainList D₄ zs.toArray := let ⟨c, e⟩ := hl₄; ⟨c, hold _ _ e nD₄⟩
    exact law19 (s := { s with heap := h₄, toks := tk₄, gens := s.gens }) S' B' N₄ Kc₂ hbD hb0 hfr hroom hun hh rfl rfl ⟨hf', hb', tqg (tq4 ha₂), tqg (tq4 (rev4 ha₂ hlen₄ hR₄))⟩ hQ
end
end

section
set_option linter.unusedVariables false
set_option maxRecDepth 8000
/-- the local names, before the two defs -/
structure Nm0 (v : Vl) (m : Str → Option Value) : Prop where
  identifier : ∃ t, m "identifier" = some (.int (v.ident : Int) t)
  other : ∃ t, m "other" = some (.int (v.other : Int) t)
  mine : ∃ t, m "mine" = some (.bytes v.mine.toArray t)
  yours : ∃ t, m "yours" = some (.bytes v.yours.toArray t)
  left : ∃ t, m "left" = some (.int (v.left : Int) t)
  right : ∃ t, m "right" = some (.int (v.right : Int) t)
  upper : ∃ t, m "upper" = some (.int (v.upper : Int) t)
  lower : ∃ t, m "lower" = some (.int (v.lower : Int) t)
  secret : ∃ t, m "secret" = some (.bytes v.secret.toArray t)
  wanted : ∃ t, m "wanted" = some (.bytes v.wanted.toArray t)

theorem xor_lt256 {n a b : Nat} (ha : a < 256 ^ n) (hb : b < 256 ^ n) : a ^^^ b < 256 ^ n := by
  have e : (256 : Nat) ^ n = 2 ^ (8 * n) := by rw [Nat.pow_mul]
  rw [e] at ha hb ⊢
  exact Nat.xor_lt_two_pow ha hb
theorem ans_lt {v : Vl} (o : v.Ok) : ∀ r ∈ v.ans, r < 256 ^ v.n := by
  intro r hr
  simp only [Vl.ans, List.mem_append, List.mem_cons, List.not_mem_nil, or_false] at hr
  rcases hr with (hr | rfl | rfl) | hr
  · exact o.r _ (List.mem_of_mem_take hr)
  · exact xor_lt256 (xor_lt256 o.left (o.ri 0)) o.lower
  · exact xor_lt256 (xor_lt256 o.right (o.ri 1)) o.upper
  · exact o.r _ (List.mem_of_mem_drop hr)
theorem ans_len {v : Vl} (o : v.Ok) : v.ans.length = 12 := by simp [Vl.ans, o.len]

section
variable {prog : Program} {w : World} {A : Around} {E : Value → Shared → Prop} {s : Shared} {L : Addr} {b0 : Heap} {m cm mg mb : Str → Option Value} {p : Pm} {g : Heap} {σ σ' : Sig} {v : Vl} {K : Frag}



theorem fresh_at (h : Heap) : h.get? h.objs.size = none := by
  cases q : h.get? h.objs.size with
  | none => rfl
  | some o => exact absurd (Heap.lt_size q) (Nat.lt_irrefl _)
theorem ne_of_fresh {h : Heap} {a b : Addr} {o : Obj} (ha : h.get? a = none) (hb : h.get? b = some o) : b ≠ a := fun q => by rw [q, ha] at hb; cases hb

set_option maxHeartbeats 4000000 in
/-- items 13 to 16: the state begins -/
theorem law13 {Q : Flow → Shared → Prop} {lAn rA : Addr} {va vr : List Value} (F : Fr b0 L s.heap m) (X : Cl L (ownL L) s.heap cm) (G : Gl mg mb b0) (M : Em K mg b0) (C34 : CodeHd b0 34 30) (C145 : CodeHd b0 145 143) (h30 : s.heap.get? 30 = some (tabObj #[])) (h143 : s.heap.get? 143 = some (tabObj #[]))
    (n30 : b0.get? 30 = none) (n143 : b0.get? 143 = none) (hL : @LT.lt Nat _ 146 L) (hg : AllBare s.gens) (vo : v.Ok) (N : Nm0 v m) (he : ∃ t, cm "exponent" = some (.int (v.e : Int) t)) (hfl : cm "flag" = some (.bool v.flag)) (hha : ∃ t, cm "half" = some (.int (v.n : Int) t)) (han : cm "answers" = some (.ref lAn))
    (hla : s.heap.IsList lAn va.toArray) (hia : IntsAre va (v.ans.map fun r : Nat => (r : Int))) (hrows : m "rows" = some (.ref rA)) (hrl : s.heap.IsList rA vr.toArray) (hri : IntsAre vr (v.r.map fun r : Nat => (r : Int)))
    (hfr : A.frames = some [envL L]) (hroom : A.depth + 250 < recursionLimit) (hun : A.units + 250 < cLine) (hh : A.handled = none)
    (hQ : ∀ h' k gs m', AllBare gs → Fr b0 L h' m' → XT h' → (∃ ps, h'.get? 143 = some (tabObj ps)) → Q (.ret (.bool true)) { s with heap := h', toks := k, gens := gs }) :
    wpAny (model prog w) A (execs (rest 13) (envL L)) Q E s := by
  have nL : b0.get? L = none := Heap.get?_none_of_le F.above
  have nO : ∀ n c, (ownL L).lookup n = some c → b0.get? c = none := fun n c hc => Heap.get?_none_of_le (Nat.le_trans F.above (Nat.le_of_lt (X.above n c (mem_of_lookup hc))))
  have L30 : (30 : Addr) ≠ L := fun q => by have q' : @Eq Nat 30 L := q; omega
  have L143 : (143 : Addr) ≠ L := fun q => by have q' : @Eq Nat 143 L := q; omega
  have ow30 : ∀ n c, (ownL L).lookup n = some c → (30 : Addr) ≠ c := fun n c hc q => by
    have h1 : @LT.lt Nat _ L c := X.above n c (mem_of_lookup hc)
    have q' : @Eq Nat 30 c := q
    omega
  have ow143 : ∀ n c, (ownL L).lookup n = some c → (143 : Addr) ≠ c := fun n c hc q => by
    have h1 : @LT.lt Nat _ L c := X.above n c (mem_of_lookup hc)
    have q' : @Eq Nat 143 c := q
    omega
  obtain ⟨oA, hoA, _⟩ := id hla
  obtain ⟨oR, hoR, _⟩ := id hrl
  -- what may not move: everything but L, the cells, 143
  -- asked
  refine wpAny_execs_cons ?_
  walk_at "mw"
  refine wpAny_List (wpAny_items_nil ⟨by rw [sizeLine_eq]; simp, ?_⟩)
  dsimp only
  generalize hH1 : (s.heap.push { cls := .type "list", data := .seq ([] : List Value).toArray }) = h₁
  have K₁ : Kp s.heap h₁ := fun b o e => hH1 ▸ Heap.get?_push_of_some _ e
  have hA₁ : h₁.get? s.heap.objs.size = some { cls := .type "list", data := .seq ([] : List Value).toArray } := hH1 ▸ Heap.get?_push_size _ rfl
  have fA := fresh_at s.heap
  generalize hAA : s.heap.objs.size = aA at hA₁ fA ⊢
  have F₁ := F.keeps K₁
  have X₁ := X.keeps K₁
  refine stO (cl := []) F₁ X₁ (by simp; rfl) (c := L + 5) rfl (fun h₂ F₂ X₂ D₂ => ?_) rfl rfl
  have hLA : L ≠ aA := by obtain ⟨o, _, _, e, _⟩ := F.ns; exact ne_of_fresh fA e
  have ownA : ∀ n c, (ownL L).lookup n = some c → c ≠ aA := fun n c hc => by obtain ⟨o, e, _⟩ := X.cell n c hc; exact ne_of_fresh fA e
  have hA₂ := D₂.extBut _ _ (Ne.symm (ownA "asked" _ rfl)) hA₁
  -- table
  dsimp only
  refine wpAny_execs_cons ?_
  walk_at "mw"
  refine wpAny_Dict_empty ?_
  dsimp only
  generalize hH3 : (h₂.push { cls := .type "dict", data := .dict #[] }) = h₃
  have K₃ : Kp h₂ h₃ := fun b o e => hH3 ▸ Heap.get?_push_of_some _ e
  have hT₃ : h₃.get? h₂.objs.size = some { cls := .type "dict", data := .dict #[] } := hH3 ▸ Heap.get?_push_size _ rfl
  have fT := fresh_at h₂
  generalize hTT : h₂.objs.size = tA at hT₃ fT ⊢
  have F₃ := F₂.keeps K₃
  have X₃ := X₂.keeps K₃
  refine stO (cl := []) F₃ X₃ (by simp; rfl) (c := L + 9) rfl (fun h₄ F₄ X₄ D₄ => ?_) rfl rfl
  have hLT : L ≠ tA := by obtain ⟨o, _, _, e, _⟩ := F₂.ns; exact ne_of_fresh fT e
  have ownT : ∀ n c, (ownL L).lookup n = some c → c ≠ tA := fun n c hc => by obtain ⟨o, e, _⟩ := X₂.cell n c hc; exact ne_of_fresh fT e
  have hAT : aA ≠ tA := ne_of_fresh fT hA₂
  have hT₄ := D₄.extBut _ _ (Ne.symm (ownT "table" _ rfl)) hT₃
  have hA₄ := D₄.extBut _ _ (Ne.symm (ownA "table" _ rfl)) (K₃ _ _ hA₂)
  -- what s.heap held, but the cells
  have up₄ : ∀ b o, s.heap.get? b = some o → (∀ n c, (ownL L).lookup n = some c → b ≠ c) → h₄.get? b = some o := fun b o e hb => D₄.extBut _ _ (hb "table" _ rfl) (K₃ _ _ (D₂.extBut _ _ (hb "asked" _ rfl) (K₁ _ _ e)))
  have h30₄ := up₄ _ _ h30 fun n c hc => ow30 n c hc
  have h143₄ := up₄ _ _ h143 fun n c hc => ow143 n c hc
  have cellObj : ∀ n c, (ownL L).lookup n = some c → ∃ o v, s.heap.get? c = some o ∧ o.data = .cell v := fun n c hc => by obtain ⟨o, e, d⟩ := X.cell n c hc; exact ⟨o, _, e, d⟩
  have notOwn : ∀ (b : Addr) (o : Obj), s.heap.get? b = some o → (∀ v, o.data ≠ .cell v) → ∀ n c, (ownL L).lookup n = some c → b ≠ c := fun b o e hd n c hc q => by
    obtain ⟨o', v', e', d'⟩ := cellObj n c hc
    rw [q, e'] at e
    cases e
    exact hd _ d'
  have la₄ : h₄.IsList lAn va.toArray := let ⟨o, ho, hc, n, hd⟩ := hla; ⟨o, up₄ _ _ ho (notOwn _ _ ho fun _ q => by rw [hd] at q; cases q), hc, n, hd⟩
  have rl₄ : h₄.IsList rA vr.toArray := let ⟨o, ho, hc, n, hd⟩ := hrl; ⟨o, up₄ _ _ ho (notOwn _ _ ho fun _ q => by rw [hd] at q; cases q), hc, n, hd⟩
  obtain ⟨bm, ob, b1, b2, b3, b4, b5, b6⟩ := G.bmain
  have hbG : bm ≠ mainGlobals := fun q => by
    obtain ⟨o, es, ep, e, hd, _⟩ := G.g
    rw [q, e] at b3; cases b3; rw [hd] at b6; cases b6
  have hbP : bm ≠ (143 : Addr) := fun q => by rw [q, n143] at b3; cases b3
  have hgP : mainGlobals ≠ (143 : Addr) := by decide
  -- stretch
  dsimp only
  refine wpAny_execs_cons (nestDef_K rfl rfl rfl ?_)
  refine makeFunction_K (mg := mg) (clos := [("table", L + 9), ("half", L + 8), ("asked", L + 5), ("answers", L + 4)]) (by rfl) rfl (G.g.keeps F₄.keep) rfl (C145.keeps F₄.keep) h143₄ trivial rfl hgP ⟨bm, ob, b1, b2, hbG, hbP, F₄.keep _ _ b3, b4, b5, b6⟩ fun cS ctv doc h₅ tk₅ e₅ hge₅ hlt₅ rec₅ tab₅ => ?_
  have F₅ : Fr b0 L h₅ m := ⟨F₄.ns.extBut e₅ (Ne.symm L143), fun b o e => e₅ _ _ (fun q => by rw [q, n143] at e; cases e) (F₄.keep _ _ e), F₄.above⟩
  have X₅ : Cl L (ownL L) h₅ _ := X₄.extBut e₅ (Nat.le_of_lt (Nat.lt_trans (by decide) hL))
  have hq1 : qualnameIn (envL L) "stretch" "stretch" = ("law.<locals>.stretch" : Str) := by kernel_rfl
  have hq2 : qualnameIn (envL L) "questions" "questions" = ("law.<locals>.questions" : Str) := by kernel_rfl
  have lt4L : @LT.lt Nat _ L h₄.objs.size := F₄.ns.lt
  generalize hH6 : (h₅.push (fnMade _ _ _ _ _ _ _ _ _ _)) = h₆
  have K₆ : Kp h₅ h₆ := fun b o e => hH6 ▸ Heap.get?_push_of_some _ e
  have fn₆ : h₆.get? h₅.objs.size = some (fnMade "stretch" (qualnameIn (envL L) "stretch" "stretch") (parOf stS) (bodOf stS) (scoOf stS) [("table", L + 9), ("half", L + 8), ("asked", L + 5), ("answers", L + 4)] doc ((mg "__name__").getD .none) cS ctv) := hH6 ▸ Heap.get?_push_size _ rfl
  have rec₆ := rec₅.keeps K₆
  have ltS : @LT.lt Nat _ L h₅.objs.size := F₅.ns.lt
  generalize hFS : h₅.objs.size = fS at fn₆ ltS ⊢
  have F₆ := F₅.keeps K₆
  have X₆ := X₅.keeps K₆
  refine wpAny_storeName_local rfl F₆.ns (fun h₇ ns₇ D₇ => ?_) (by rfl)
  have F₇ := F₆.set ns₇ D₇
  have X₇ := X₆.sameBut D₇ (Nat.le_refl _)
  have neS : fS ≠ L := Nat.ne_of_gt ltS
  have neC : cS ≠ L := Nat.ne_of_gt (Nat.lt_of_lt_of_le lt4L hge₅)
  have fn₇ := D₇.extBut _ _ neS fn₆
  have tab₇ := D₇.extBut _ _ L143 (K₆ _ _ tab₅)
  have rec₇ : h₇.CodeRec (.ref cS) (qualnameIn (envL L) "stretch" "stretch") := let ⟨c, o, vs, t, e, a, b, d⟩ := rec₆; ⟨c, o, vs, t, e, D₇.extBut _ _ (by cases e; exact neC) a, b, d⟩
  have up₇ : ∀ b o, b ≠ L → b ≠ (143 : Addr) → h₄.get? b = some o → h₇.get? b = some o := fun b o h1 h2 e => D₇.extBut _ _ h1 (K₆ _ _ (e₅ _ _ h2 e))
  -- questions
  dsimp only
  refine wpAny_execs_cons (nestDef_K rfl rfl rfl ?_)
  refine makeFunction_K (mg := mg) (clos := clQ (L + 6) (L + 7) (L + 8)) (by rfl) rfl (G.g.keeps F₇.keep) rfl (C145.keeps F₇.keep) tab₇ trivial rfl hgP ⟨bm, ob, b1, b2, hbG, hbP, F₇.keep _ _ b3, b4, b5, b6⟩ fun cQ ctv2 doc2 h₈ tk₈ e₈ hge₈ hlt₈ rec₈ tab₈ => ?_
  have F₈ : Fr b0 L h₈ _ := ⟨F₇.ns.extBut e₈ (Ne.symm L143), fun b o e => e₈ _ _ (fun q => by rw [q, n143] at e; cases e) (F₇.keep _ _ e), F₇.above⟩
  have X₈ : Cl L (ownL L) h₈ _ := X₇.extBut e₈ (Nat.le_of_lt (Nat.lt_trans (by decide) hL))
  have lt7L : @LT.lt Nat _ L h₇.objs.size := F₇.ns.lt
  generalize hH9 : (h₈.push (fnMade _ _ _ _ _ _ _ _ _ _)) = h₉
  have K₉ : Kp h₈ h₉ := fun b o e => hH9 ▸ Heap.get?_push_of_some _ e
  have fn₉ : h₉.get? h₈.objs.size = some (fnMade "questions" (qualnameIn (envL L) "questions" "questions") (parOf stQ) (bodOf stQ) (scoOf stQ) (clQ (L + 6) (L + 7) (L + 8)) doc2 ((mg "__name__").getD .none) cQ ctv2) := hH9 ▸ Heap.get?_push_size _ rfl
  have rec₉ := rec₈.keeps K₉
  have ltQ : @LT.lt Nat _ L h₈.objs.size := F₈.ns.lt
  generalize hFQ : h₈.objs.size = fQ at fn₉ ltQ ⊢
  have F₉ := F₈.keeps K₉
  have X₉ := X₈.keeps K₉
  refine wpAny_storeName_local rfl F₉.ns (fun h ns D => ?_) (by rfl)
  have Fz := F₉.set ns D
  have Xz := X₉.sameBut D (Nat.le_refl _)
  have neFQ : fQ ≠ L := Nat.ne_of_gt ltQ
  have neCQ : cQ ≠ L := Nat.ne_of_gt (Nat.lt_of_lt_of_le lt7L hge₈)
  have fnQ := D.extBut _ _ neFQ fn₉
  have recQ : h.CodeRec (.ref cQ) (qualnameIn (envL L) "questions" "questions") := let ⟨c, o, vs, t, e, a, b, d⟩ := rec₉; ⟨c, o, vs, t, e, D.extBut _ _ (by cases e; exact neCQ) a, b, d⟩
  have up7 : ∀ b o, b ≠ L → b ≠ (143 : Addr) → h₇.get? b = some o → h.get? b = some o := fun b o h1 h2 e => D.extBut _ _ h1 (K₉ _ _ (e₈ _ _ h2 e))
  have up4 : ∀ b o, b ≠ L → b ≠ (143 : Addr) → h₄.get? b = some o → h.get? b = some o := fun b o h1 h2 e => up7 _ _ h1 h2 (up₇ _ _ h1 h2 e)
  have size143 : ∀ a : Nat, @LE.le Nat _ h₄.objs.size a → ¬ @Eq Nat a 143 := fun a h q => by omega
  have h₅size : @LE.le Nat _ h₄.objs.size fS := by
    have h1 : @LT.lt Nat _ cS fS := hFS ▸ hlt₅
    have h2 : @LE.le Nat _ h₄.objs.size cS := hge₅
    omega
  have fnS := up7 _ _ neS (fun q => size143 fS h₅size q) fn₇
  have recS : h.CodeRec (.ref cS) (qualnameIn (envL L) "stretch" "stretch") := let ⟨c, o, vs, t, e, a, b, d⟩ := rec₇; ⟨c, o, vs, t, e, up7 _ _ (by cases e; exact neC) (by cases e; exact fun q => size143 cS hge₅ q) a, b, d⟩
  have hAL : aA ≠ L := Ne.symm hLA
  have hTL : tA ≠ L := Ne.symm hLT
  have geA : @LE.le Nat _ 147 aA := by
    have h1 : @LT.lt Nat _ L s.heap.objs.size := F.ns.lt
    have h2 : @Eq Nat s.heap.objs.size aA := hAA
    omega
  have geT : @LE.le Nat _ 147 tA := by
    have h1 : @LT.lt Nat _ L h₂.objs.size := F₂.ns.lt
    have h2 : @Eq Nat h₂.objs.size tA := hTT
    omega
  have hAz := up4 _ _ hAL (fun q => by have q' : @Eq Nat aA 143 := q; omega) hA₄
  have hTz := up4 _ _ hTL (fun q => by have q' : @Eq Nat tA 143 := q; omega) hT₄
  have h30z := up4 _ _ L30 (by decide) h30₄
  obtain ⟨oL, _, _, eL, hdL, _⟩ := id F₄.ns
  have eL : h₄.get? L = some oL := eL
  have notL : ∀ (b : Addr) (o : Obj), h₄.get? b = some o → (∀ es n, o.data ≠ .dict es n) → b ≠ L := fun b o e hd q => by
    rw [q, eL] at e
    cases e
    exact hd _ _ hdL
  have not143 : ∀ (b : Addr) (o : Obj), h₄.get? b = some o → (∀ vs, o.data ≠ .fields vs) → b ≠ (143 : Addr) := fun b o e hd q => by
    rw [q, h143₄] at e
    cases e
    exact hd _ rfl
  have laz : h.IsList lAn va.toArray := let ⟨o, ho, hc, n, hd⟩ := la₄; ⟨o, up4 _ _ (notL _ _ ho fun _ _ q => by rw [hd] at q; cases q) (not143 _ _ ho fun _ q => by rw [hd] at q; cases q) ho, hc, n, hd⟩
  have rlz : h.IsList rA vr.toArray := let ⟨o, ho, hc, n, hd⟩ := rl₄; ⟨o, up4 _ _ (notL _ _ ho fun _ _ q => by rw [hd] at q; cases q) (not143 _ _ ho fun _ q => by rw [hd] at q; cases q) ho, hc, n, hd⟩
  -- the places
  obtain ⟨te, he⟩ := he
  obtain ⟨th, hha⟩ := hha
  obtain ⟨p, hp⟩ : ∃ p : Pm, p = ⟨aA, tA, fS, cS, L + 4, L + 5, L + 8, L + 9, lAn, v.n, v.ans⟩ := ⟨_, rfl⟩
  obtain ⟨g, hgd⟩ : ∃ g, g = hideAll h (p.D ++ L :: (ownL L).map (·.2)) := ⟨_, rfl⟩
  have gn : ∀ a ∈ p.D ++ L :: (ownL L).map (·.2), g.get? a = none := fun a ha => by rw [hgd]; exact hideAll_none _ ha
  have gh : Kp g h := fun b o e => by rw [hgd] at e; exact of_hideAll _ e
  have nb : ∀ a ∈ p.D ++ L :: (ownL L).map (·.2), b0.get? a = none := fun a ha => by
    simp only [List.mem_append, List.mem_cons, List.mem_map] at ha
    rcases ha with ha | rfl | ⟨⟨n, c⟩, hm, rfl⟩
    · rw [hp] at ha
      simp only [Pm.D, List.mem_cons, List.not_mem_nil, or_false] at ha
      rcases ha with ha | ha | ha
      · rw [ha]
        cases q : b0.get? aA with
        | none => rfl
        | some o => have := F.keep _ _ q; rw [fA] at this; cases this
      · rw [ha]
        cases q : b0.get? tA with
        | none => rfl
        | some o => have := F₂.keep _ _ q; rw [fT] at this; cases this
      · rw [ha]
        exact n30
    · exact nL
    · exact nO n c (own_nd n c hm)
  have bg : Kp b0 g := by rw [hgd]; exact kp_hide Fz.keep nb
  have hold : ∀ (b : Addr) (o : Obj), h.get? b = some o → b ≠ aA → b ≠ tA → b ≠ (30 : Addr) → b ≠ L → (∀ n c, (ownL L).lookup n = some c → b ≠ c) → g.get? b = some o := fun b o e h1 h2 h3 h4 h5 => by
    rw [hgd]
    refine hideAll_get _ e fun hm => ?_
    simp only [List.mem_append, List.mem_cons, List.mem_map] at hm
    rcases hm with hm | hm | ⟨⟨n, c⟩, hm, rfl⟩
    · rw [hp] at hm
      simp only [Pm.D, List.mem_cons, List.not_mem_nil, or_false] at hm
      rcases hm with hm | hm | hm
      · exact h1 hm
      · exact h2 hm
      · exact h3 hm
    · exact h4 hm
    · exact h5 n c (own_nd n c hm) rfl
  have owz : ∀ (b : Addr) (o : Obj), h.get? b = some o → (∀ v, o.data ≠ .cell v) → ∀ n c, (ownL L).lookup n = some c → b ≠ c := fun b o e hd n c hc q => by
    obtain ⟨o', e', d'⟩ := Xz.cell n c hc
    rw [q, e'] at e
    cases e
    exact hd _ d'
  have neA : ∀ (b : Addr) (o : Obj), h.get? b = some o → (∀ vs n, o.data ≠ .seq vs n) → b ≠ aA := fun b o e hd q => by rw [q, hAz] at e; cases e; exact hd _ _ rfl
  have neT : ∀ (b : Addr) (o : Obj), h.get? b = some o → (∀ vs n, o.data ≠ .dict vs n) → b ≠ tA := fun b o e hd q => by rw [q, hTz] at e; cases e; exact hd _ _ rfl
  have ne30 : ∀ (b : Addr) (o : Obj), h.get? b = some o → o.cls ≠ .none → b ≠ (30 : Addr) := fun b o e hd q => by rw [q, h30z] at e; cases e; exact hd rfl
  have c30 : cS ≠ (30 : Addr) := fun q => by
    have q' : @Eq Nat cS 30 := q
    have h2 : @LE.le Nat _ h₄.objs.size cS := hge₅
    omega
  have lAne : lAn ≠ aA := ne_of_fresh fA hoA
  have oth : ∀ n c, (n, c) ∈ ownL L → L ≠ c := fun n c hm => Nat.ne_of_lt (X.above n c hm)
  have fnSz : h.get? fS = some { cls := .type "function", data := .func (fnX "stretch" "law.<locals>.stretch" (parOf stS) (bodOf stS) (scoOf stS) (clS p) .none .none doc ((mg "__name__").getD .none) none (.ref cS) ctv) } := by rw [fnS, hq1, hp]; rfl
  have fnQz : h.get? fQ = some { cls := .type "function", data := .func (fnX "questions" "law.<locals>.questions" (parOf stQ) (bodOf stQ) (scoOf stQ) (clQ (L + 6) (L + 7) (L + 8)) .none .none doc2 ((mg "__name__").getD .none) none (.ref cQ) ctv2) } := by rw [fnQ, hq2]
  rw [hq1] at recS
  rw [hq2] at recQ
  have fS_g : g.get? fS = some _ := hold _ _ fnSz (neA _ _ fnSz fun _ _ q => by cases q) (neT _ _ fnSz fun _ _ q => by cases q) (ne30 _ _ fnSz (by intro q; cases q)) neS (owz _ _ fnSz fun _ q => by cases q)
  have fQ_g : g.get? fQ = some _ := hold _ _ fnQz (neA _ _ fnQz fun _ _ q => by cases q) (neT _ _ fnQz fun _ _ q => by cases q) (ne30 _ _ fnQz (by intro q; cases q)) neFQ (owz _ _ fnQz fun _ q => by cases q)
  have recQg : g.CodeRec (.ref cQ) "law.<locals>.questions" := by
    obtain ⟨c, o, vs, t, e, a, b, d⟩ := recQ
    cases e
    refine ⟨_, o, vs, t, rfl, hold _ _ a (neA _ _ a fun _ _ q => by rw [b] at q; cases q) (neT _ _ a fun _ _ q => by rw [b] at q; cases q) (fun q => ?_) neCQ (owz _ _ a fun _ q => by rw [b] at q; cases q), b, d⟩
    have q' : @Eq Nat cQ 30 := q
    have h2 : @LE.le Nat _ h₇.objs.size cQ := hge₈
    omega
  have Cz : C prog w p g ⟨[], []⟩ h := by
    subst hp
    exact ⟨gh, ⟨[], ⟨_, hAz⟩, .nil⟩, ⟨[], ⟨_, _, _, hTz, ⟨rfl, rfl, rfl⟩, rfl, rfl, fun x hx => by simp at hx, List.nodup_nil⟩, .nil⟩, ⟨#[], (C34.keeps Fz.keep).code h30z trivial, (C34.keeps Fz.keep).tab h30z⟩,
      ⟨none, doc, _, ctv, fnSz, recS⟩, han ▸ Xz.cell "answers" _ rfl, Xz.cell "asked" _ rfl, ⟨th, hha ▸ Xz.cell "half" _ rfl⟩, Xz.cell "table" _ rfl, ⟨va, laz, hia⟩⟩
  have t143g := hold _ _ (D.extBut _ _ L143 (K₉ _ _ tab₈)) (fun q => by have q' : @Eq Nat 143 aA := q; omega) (fun q => by have q' : @Eq Nat 143 tA := q; omega) (by decide) L143 fun n c hc => ow143 n c hc
  have Bz : Bg K mg mb p v L fQ cQ g := by
    refine ⟨G.keeps bg, M.keeps bg, ⟨gn _ (by simp [Pm.D]), gn _ (by simp [Pm.D]), gn _ (by simp [Pm.D]), ?_, ?_, ?_, ?_, ?_, ?_, ?_, ?_⟩, vo, by rw [hp], by rw [hp], ⟨none, doc2, _, ctv2, fQ_g, recQg⟩, ⟨gn L (by simp), ?_, ?_, Ne.symm L30, ?_⟩, fun n c hm => ⟨gn c ?_, ?_, ?_, ?_, ?_⟩, by rw [hp], by rw [hp], by rw [hp], by rw [hp], ⟨_, t143g⟩⟩
    · rw [hp]
      refine beq_false_of_ne fun q => ?_
      have q' : @Eq Nat tA 1 := q
      omega
    · rw [hp]; exact vo.n16
    · rw [hp]; exact ans_len vo
    · rw [hp]; exact ans_lt vo
    · rw [hp]; exact lAne
    · rw [hp]
      intro q
      have q' : @Eq Nat aA 30 := q
      omega
    · rw [hp]
      intro q
      have q' : @Eq Nat tA 30 := q
      omega
    · rw [hp]; exact c30
    · rw [hp]; exact hLA
    · rw [hp]; exact hLT
    · rw [hp]; exact Ne.symm neC
    · simp only [List.mem_append, List.mem_cons, List.mem_map]
      exact .inr (.inr ⟨(n, c), hm, rfl⟩)
    · rw [hp]; exact ownA n c (own_nd n c hm)
    · rw [hp]; exact ownT n c (own_nd n c hm)
    · exact Ne.symm (ow30 n c (own_nd n c hm))
    · rw [hp]
      obtain ⟨o, e, _⟩ := X₄.cell n c (own_nd n c hm)
      have h1 : @LT.lt Nat _ c h₄.objs.size := Heap.lt_size e
      have h2 : @LE.le Nat _ h₄.objs.size cS := hge₅
      intro q
      have q' : @Eq Nat c cS := q
      omega
  have Nz : Nm v p fQ (fun y => if y = "questions" then some (.ref fQ) else if y = "stretch" then some (.ref fS) else m y) := ⟨N.identifier, N.other, N.mine, N.yours, N.left, N.right, N.upper, N.lower, N.secret, N.wanted, by rw [hp]; rfl, rfl⟩
  have Kz : Cm v p (fun y => if y = "table" then some (.ref tA) else if y = "asked" then some (.ref aA) else cm y) := ⟨⟨te, he⟩, hfl, ⟨th, hha⟩, by rw [hp]; exact han, by rw [hp]; rfl, by rw [hp]; rfl⟩
  have Sz : LSt prog w p g b0 L ⟨[], []⟩ _ _ h s.gens := ⟨Fz, Xz, Cz, hg⟩
  obtain ⟨oR', hoR', hcR', nR', hdR'⟩ := rlz
  refine law17 (s := { s with heap := h, toks := _, gens := s.gens }) Sz Bz Nz Kz (fun a ha => nb a (List.mem_append_left _ ha)) nL hfr hroom hun hh (rA := rA) hrows ⟨oR', hold _ _ hoR' ?_ (neT _ _ hoR' fun _ _ q => by rw [hdR'] at q; cases q) (ne30 _ _ hoR' (by rw [hcR']; intro q; cases q)) ?_ (owz _ _ hoR' fun _ q => by rw [hdR'] at q; cases q), hcR', nR', hdR'⟩ hri hQ
  · exact ne_of_fresh fA hoR
  · intro q
    obtain ⟨o, _, _, e, hd, _⟩ := Fz.ns
    have e : h.get? L = some o := e
    rw [q, e] at hoR'
    cases hoR'
    rw [hd] at hdR'
    cases hdR'
end
end

section
set_option linter.unusedVariables false
set_option maxRecDepth 8000
/-- the values that the script tells -/
def vOf (ns : List Int) : Vl where
  n := ((ns.getD 0 0 + 16).fmod 17).toNat
  e := (((ns.getD 0 0).fdiv 34).fmod 16).toNat
  ident := ((ns.getD 1 0).fmod 32768).toNat
  other := (((ns.getD 1 0).fdiv 32768).fmod 32768).toNat
  flag := ((ns.getD 0 0).fdiv 17).fmod 2 == 1
  mine := (octetsOf (ns.getD 2 0)).toList
  yours := (octetsOf (ns.getD 3 0)).toList
  left := (rowOf ns 4 ((ns.getD 0 0 + 16).fmod 17).toNat).toNat
  right := (rowOf ns 5 ((ns.getD 0 0 + 16).fmod 17).toNat).toNat
  upper := (rowOf ns 6 ((ns.getD 0 0 + 16).fmod 17).toNat).toNat
  lower := (rowOf ns 7 ((ns.getD 0 0 + 16).fmod 17).toNat).toNat
  r := (List.range 10).map fun k => (rowOf ns (8 + k) ((ns.getD 0 0 + 16).fmod 17).toNat).toNat

theorem row_rng (ns : List Int) (p n : Nat) : 0 ≤ rowOf ns p n ∧ rowOf ns p n < 256 ^ n := fmod_rng _ (Int.pow_pos (by decide))
theorem row_nat (ns : List Int) (p n : Nat) : ((rowOf ns p n).toNat : Int) = rowOf ns p n := Int.toNat_of_nonneg (row_rng ns p n).1
theorem row_lt (ns : List Int) (p n : Nat) : (rowOf ns p n).toNat < 256 ^ n := by
  have h := (row_rng ns p n).2
  have e := row_nat ns p n
  have : (((rowOf ns p n).toNat : Nat) : Int) < ((256 ^ n : Nat) : Int) := by rw [e]; push_cast; exact h
  exact_mod_cast this
theorem oct_len (x : Int) : (octetsOf x).size ≤ 12 := by
  unfold octetsOf
  rw [byteArr_size, List.length_map, List.length_range]
  have := fmod_rng x (b := 13) (by decide)
  omega
theorem vOk (ns : List Int) : (vOf ns).Ok where
  n16 := by have := fmod_rng (ns.getD 0 0 + 16) (b := 17) (by decide); show ((ns.getD 0 0 + 16).fmod 17).toNat ≤ 16; omega
  e16 := by have := fmod_rng ((ns.getD 0 0).fdiv 34) (b := 16) (by decide); show (((ns.getD 0 0).fdiv 34).fmod 16).toNat < 16; omega
  ident := by have := fmod_rng (ns.getD 1 0) (b := 32768) (by decide); show ((ns.getD 1 0).fmod 32768).toNat < 32768; omega
  other := by have := fmod_rng ((ns.getD 1 0).fdiv 32768) (b := 32768) (by decide); show (((ns.getD 1 0).fdiv 32768).fmod 32768).toNat < 32768; omega
  mine := by have := oct_len (ns.getD 2 0); show (octetsOf (ns.getD 2 0)).toList.length ≤ 12; simpa using this
  yours := by have := oct_len (ns.getD 3 0); show (octetsOf (ns.getD 3 0)).toList.length ≤ 12; simpa using this
  left := row_lt _ _ _
  right := row_lt _ _ _
  upper := row_lt _ _ _
  lower := row_lt _ _ _
  len := by simp [vOf]
  r := by
    intro x hx
    simp only [vOf, List.mem_map] at hx
    obtain ⟨k, _, rfl⟩ := hx
    exact row_lt _ _ _

/-- law's frame before the state -/
structure PSt (b0 : Heap) (L : Addr) (m cm : Str → Option Value) (h : Heap) : Prop where
  F : Fr b0 L h m
  X : Cl L (ownL L) h cm
  t30 : h.get? 30 = some (tabObj #[])
  t143 : h.get? 143 = some (tabObj #[])

theorem ints_app {vs us : List Value} {ns ms : List Int} (h : IntsAre vs ns) (h' : IntsAre us ms) : IntsAre (vs ++ us) (ns ++ ms) := by
  induction h with
  | nil => exact h'
  | cons i t _ ih => exact .cons i t ih
theorem ints_take : ∀ (k : Nat) {vs : List Value} {ns : List Int}, IntsAre vs ns → IntsAre (vs.take k) (ns.take k)
  | 0, _, _, _ => by simpa using IntsAre.nil
  | k + 1, _, _, .nil => by simpa using IntsAre.nil
  | k + 1, _, _, .cons i t r => by simpa using IntsAre.cons i t (ints_take k r)
theorem ints_drop : ∀ (k : Nat) {vs : List Value} {ns : List Int}, IntsAre vs ns → IntsAre (vs.drop k) (ns.drop k)
  | 0, _, _, h => by simpa using h
  | k + 1, _, _, .nil => by simpa using IntsAre.nil
  | k + 1, _, _, .cons i t r => by simpa using ints_drop k r

section
variable {prog : Program} {w : World} {A : Around} {E : Value → Shared → Prop} {s : Shared} {L : Addr} {b0 : Heap} {m cm mg mb : Str → Option Value} {v : Vl} {K : Frag} {h h' : Heap}



theorem PSt.kp (S : PSt b0 L m cm h) (k : Kp h h') : PSt b0 L m cm h' := ⟨S.F.keeps k, S.X.keeps k, k _ _ S.t30, k _ _ S.t143⟩
theorem PSt.n30 (hL : @LT.lt Nat _ 146 L) : (30 : Addr) ≠ L ∧ (143 : Addr) ≠ L := ⟨fun q => by have q' : @Eq Nat 30 L := q; omega, fun q => by have q' : @Eq Nat 143 L := q; omega⟩
theorem stP {x : Str} {u : Value} {Q : Unit → Shared → Prop} (S : PSt b0 L m cm s.heap) (hL : @LT.lt Nat _ 146 L) (hQ : ∀ h', PSt b0 L (fun y => if y = x then some u else m y) cm h' → Heap.SameBut L s.heap h' → Q () { s with heap := h', toks := s.toks + 1 })
    (hl : (envL L).kindOf x = some .local := by rfl) : wpAny (model prog w) A (storeName (envL L) x u) Q E s :=
  wpAny_storeName_local hl S.F.ns (fun h' hn hs => hQ h' ⟨S.F.set hn hs, S.X.sameBut hs (Nat.le_refl _), hs.extBut _ _ (PSt.n30 hL).1 S.t30, hs.extBut _ _ (PSt.n30 hL).2 S.t143⟩ hs) (by rfl)
theorem stPc {x : Str} {c : Addr} {u : Value} {Q : Unit → Shared → Prop} (S : PSt b0 L m cm s.heap) (hL : @LT.lt Nat _ 146 L) (hc : (ownL L).lookup x = some c) (hQ : ∀ h', PSt b0 L m (fun y => if y = x then some u else cm y) h' → Heap.SameBut c s.heap h' → Q () { s with heap := h' })
    (hl : (envL L).kindOf x = some .cell := by rfl) : wpAny (model prog w) A (storeName (envL L) x u) Q E s := by
  refine stO (cl := []) S.F S.X (by simp; rfl) hc (fun h' F' X' S' => hQ h' ⟨F', X', S'.extBut _ _ (fun q => ?_) S.t30, S'.extBut _ _ (fun q => ?_) S.t143⟩ S') rfl hl
  · have h1 : @LT.lt Nat _ L c := S.X.above x c (mem_of_lookup hc)
    have q' : @Eq Nat 30 c := q
    omega
  · have h1 : @LT.lt Nat _ L c := S.X.above x c (mem_of_lookup hc)
    have q' : @Eq Nat 143 c := q
    omega

theorem ev_mixed0 {pf pl ph pos : Pos} {x1 : Str} {p1 : Pos} {a : Nat} {n : Nat} {th : Tok} {Q : Value → Shared → Prop} (S : PSt b0 L m cm s.heap) (G : Gl mg mb b0) (hth : cm "half" = some (.int (n : Int) th)) (hn : n ≤ 16) (hroom : A.depth < recursionLimit) (hh : A.handled = none) (hr : a < 256 ^ n) (h1 : ∃ t, m x1 = some (.int (a : Int) t))
    (hQ : ∀ h' t k, Kp s.heap h' → Q (.bytes (enc n a).toArray t) { s with heap := h', toks := k }) (k1 : (envL L).kindOf x1 = some .local := by rfl) (d1 : (x1 == ("__debug__" : Str)) = false := by decide) :
    wpAny (model prog w) A (eval (.Call (.Name "_law_mixed" pf) [.List [.Name x1 p1] pl, .Name "half" ph] [] pos) (envL L)) Q E s := by
  have G := G.keeps S.F.keep
  obtain ⟨t1, h1⟩ := h1
  walk_at "mw"
  refine nmG G G.n_lm (callWith_F G.f_lm.at ?_)
  walk_at "mw"
  refine wpAny_List ?_
  walk_at "mw"
  refine nmL S.F h1 (wpAny_items_nil ⟨by rw [sizeLine_eq]; simp, ?_⟩) rfl k1 d1
  generalize hH2 : (s.heap.push { cls := .type "list", data := .seq [Value.int (a : Int) t1].toArray }) = h₂
  have K₂ : Kp s.heap h₂ := fun b o e => hH2 ▸ Heap.get?_push_of_some _ e
  have hl₂ : h₂.IsList s.heap.objs.size [Value.int (a : Int) t1].toArray := hH2 ▸ ⟨_, Heap.get?_push_size _ rfl, rfl, _, rfl⟩
  have S₂ := S.kp K₂
  have G₂ := G.keeps K₂
  walk_at "mw"
  refine nmX S₂.X hth (wpAny_items_nil ⟨G₂.f_lm.at, ?_⟩)
  refine law_mixed_call (rs := [a]) (n := n) G₂ hroom hh hl₂ (.cons _ _ .nil) (all1 hr) hn fun h₃ t₃ k₃ K₃ => ?_
  rw [xor1]
  exact hQ h₃ t₃ k₃ fun b o e => K₃ _ _ (K₂ _ _ e)

/-- _law_number(script, k) -/
theorem ev_number {pf p1 p2 pos : Pos} {kk : Nat} {sl : Addr} {vs : List Value} {ns : List Int} {i : Nat} {Q : Value → Shared → Prop} (S : PSt b0 L m cm s.heap) (G : Gl mg mb b0) (hsc : cm "script" = some (.ref sl)) (hsl : b0.IsList sl vs.toArray) (hvi : IntsAre vs ns) (hz : ns.length ≤ 63) (hroom : A.depth < recursionLimit) (hi : i < 100)
    (hQ : ∀ h' t k, Kp s.heap h' → Q (.int (ns.getD i 0) t) { s with heap := h', toks := k }) :
    wpAny (model prog w) A (eval (.Call (.Name "_law_number" pf) [.Name "script" p1, .Constant (.int (i : Int)) kk p2] [] pos) (envL L)) Q E s := by
  have G := G.keeps S.F.keep
  walk_at "mw"
  refine nmG G G.n_ln (callWith_F G.f_ln.at ?_)
  walk_at "mw"
  refine nmX S.X hsc ?_
  walk_at "mw"
  walk_at "mw"
  refine wpAny_items_nil ⟨G.f_ln.at, ?_⟩
  refine law_number_call (i := (i : Int)) G hroom (isList_kp hsl S.F.keep) hvi hz (by walk_at "dp") (by walk_at "dp") fun h' t k K' => ?_
  exact hQ h' t k K'
end
end

section
set_option linter.unusedVariables false
set_option maxRecDepth 8000
section
variable {prog : Program} {w : World} {A : Around} {E : Value → Shared → Prop} {s : Shared} {L : Addr} {b0 : Heap} {m cm mg mb : Str → Option Value} {v : Vl} {K : Frag} {h h' : Heap}



/-- what stays fixed through the first items -/
structure Pre (K : Frag) (mg mb : Str → Option Value) (b0 : Heap) (L sl : Addr) (vs : List Value) (ns : List Int) (A : Around) : Prop where
  G : Gl mg mb b0
  M : Em K mg b0
  C34 : CodeHd b0 34 30
  C145 : CodeHd b0 145 143
  n30 : b0.get? 30 = none
  n143 : b0.get? 143 = none
  hL : @LT.lt Nat _ 146 L
  hsl : b0.IsList sl vs.toArray
  hvi : IntsAre vs ns
  hz : ns.length ≤ 63
  hmul : ∀ p : Nat, p < 100 → IntMulOk (ns.getD p 0 + p) oddC
  hfr : A.frames = some [envL L]
  hroom : A.depth + 250 < recursionLimit
  hun : A.units + 250 < cLine
  hh : A.handled = none

structure Cm0 (v : Vl) (cm : Str → Option Value) (sl : Addr) : Prop where
  script : cm "script" = some (.ref sl)
  exponent : ∃ t, cm "exponent" = some (.int (v.e : Int) t)
  flag : cm "flag" = some (.bool v.flag)
  half : ∃ t, cm "half" = some (.int (v.n : Int) t)

/-- an element of the rows -/
theorem row_elt {cl : List (Str × Addr)} {scope : Scope} {Cc : Addr} {pf p1 p2 p3 p4 p5 pos : Pos} {kk : Nat} {sl : Addr} {vs : List Value} {ns : List Int} {b i n : Nat} {ti th : Tok} {s₃ : Shared} {m₃ : Str → Option Value} {E' : Value → Shared → Prop} (hcl : cl = ([("script", L + 1), ("half", L + 8)] : List (Str × Addr))) (P : Pre K mg mb b0 L sl vs ns A) (kb : Kp b0 s₃.heap)
    (c1 : s₃.heap.IsCell (L + 1) (some (.ref sl))) (c2 : s₃.heap.IsCell (L + 8) (some (.int (n : Int) th))) (hn : n ≤ 16) (hN : s₃.heap.Ns Cc m₃) (hm : m₃ "k" = some (.int (i : Int) ti)) (hbi : b + i < 100)
    (ks : (compEnvC scope cl Cc (envL L)).kindOf "script" = some .cell) (kh : (compEnvC scope cl Cc (envL L)).kindOf "half" = some .cell) (kl : (compEnvC scope cl Cc (envL L)).kindOf "k" = some .local) (kr : (compEnvC scope cl Cc (envL L)).kindOf "_law_row" = some .globalImplicit) (kf : scope.kind = .function) :
    wpAny (model prog w) A (eval (.Call (.Name "_law_row" pf) [.Name "script" p1, .BinOp (.Constant (.int (b : Int)) kk p2) .Add (.Name "k" p3) p4, .Name "half" p5] [] pos) (compEnvC scope cl Cc (envL L))) (fun y s₄ => (∃ t, y = .int (rowOf ns (b + i) n) t) ∧ Keeps s₃ s₄) E' s₃ := by
  subst hcl
  have G := P.G.keeps kb
  have hroom := P.hroom
  walk_at "mw"
  refine nmG G G.n_lr (callWith_F G.f_lr.at ?_) rfl (by exact kf) kr
  walk_at "mw"
  refine nmC c1 ?_ rfl (by exact kf) ks
  walk_at "mw"
  walk_at "mw"
  walk_at "mw"
  refine nmLN hN hm (add_int ?_) (by exact kf) kl
  walk_at "mw"
  refine nmC c2 (wpAny_items_nil ⟨G.f_lr.at, ?_⟩) rfl (by exact kf) kh
  have e : ((b : Int) + (i : Int)) = ((b + i : Nat) : Int) := by push_cast; rfl
  rw [e]
  refine law_row_call (p := b + i) (n := n) G (by walk_at "dp") (isList_kp P.hsl kb) P.hvi P.hz (by walk_at "dp") hn (P.hmul _ hbi) fun h' t' k K' => ?_
  exact ⟨⟨t', rfl⟩, h', k, rfl, K'⟩

set_option maxHeartbeats 4000000 in
/-- items 8 to 12: the rows and the answers -/
theorem law8 {Q : Flow → Shared → Prop} {sl : Addr} {vs : List Value} {ns : List Int} (P : Pre K mg mb b0 L sl vs ns A) (S : PSt b0 L m cm s.heap) (hg : AllBare s.gens) (Kc : Cm0 (vOf ns) cm sl)
    (N1 : ∃ t, m "identifier" = some (.int ((vOf ns).ident : Int) t)) (N2 : ∃ t, m "other" = some (.int ((vOf ns).other : Int) t)) (N3 : ∃ t, m "mine" = some (.bytes (vOf ns).mine.toArray t)) (N4 : ∃ t, m "yours" = some (.bytes (vOf ns).yours.toArray t))
    (hQ : ∀ h' k gs m', AllBare gs → Fr b0 L h' m' → XT h' → (∃ ps, h'.get? 143 = some (tabObj ps)) → Q (.ret (.bool true)) { s with heap := h', toks := k, gens := gs }) :
    wpAny (model prog w) A (execs (rest 8) (envL L)) Q E s := by
  have vo := vOk ns
  have hL := P.hL
  have hroom := P.hroom
  have hh := P.hh
  obtain ⟨th, hth⟩ := Kc.half
  have hn16 := vo.n16
  have G := P.G
  have nL : b0.get? L = none := Heap.get?_none_of_le S.F.above
  -- left, right, upper, lower
  refine wpAny_execs_cons (Assign_Tuple ?_ (by rfl) (by rfl))
  have c1 : s.heap.IsCell (L + 1) (some (.ref sl)) := Kc.script ▸ S.X.cell "script" _ rfl
  have c2 : s.heap.IsCell (L + 8) (some (.int ((vOf ns).n : Int) th)) := hth ▸ S.X.cell "half" _ rfl
  refine ListComp_range (n := 4) (cl := [("script", L + 1), ("half", L + 8)]) (fun i y => ∃ t, y = .int (rowOf ns (4 + i) (vOf ns).n) t) hh (by decide) (by rfl) (fun Q' hQ' => ?_) (fun C i ti s₃ m₃ E' hi hN hm hk => ?_) fun D h₁ tk₁ ys hD hl₁ hlen hR hk => ?_
  · walk_at "mw"
    refine nmB (G.keeps S.F.keep) (G.free _ (by decide)) (by boot_fast) ?_
    refine PyProof.Rows.callWith_type1 ?_
    walk_at "mw"
    walk_at "mw"
    refine wpAny_items_nil (call_range_1 ?_)
    exact hQ' _ _ _ _ _ _ (IsRange.new _ _ _ _ _ _ _) fun b o e => Heap.get?_push_of_some _ e
  · exact row_elt (b := 4) rfl P (fun b o e => hk _ _ (S.F.keep _ _ e)) (c1.keeps hk) (c2.keeps hk) hn16 hN hm (by walk_at "dp") (by rfl) (by rfl) (by rfl) (by rfl) (by rfl)
  · have S₁ := S.kp hk
    obtain ⟨y0, y1, y2, y3, rfl⟩ : ∃ y0 y1 y2 y3, ys = [y0, y1, y2, y3] := by
      match ys, hlen with
      | [a, b, c, d], _ => exact ⟨a, b, c, d, rfl⟩
    obtain ⟨t0, rfl⟩ := hR 0 y0 rfl
    obtain ⟨t1, rfl⟩ := hR 1 y1 rfl
    obtain ⟨t2, rfl⟩ := hR 2 y2 rfl
    obtain ⟨t3, rfl⟩ := hR 3 y3 rfl
    refine unpackL hh hl₁ (by rfl) (by rfl) fun h₂ K₂ => ?_
    have S₂ := S₁.kp K₂
    refine wpAny_bind (wpAny_assign_Name (stP S₂ hL fun h₃ S₃ _ => ?_))
    refine wpAny_bind (wpAny_assign_Name (stP S₃ hL fun h₄ S₄ _ => ?_))
    refine wpAny_bind (wpAny_assign_Name (stP S₄ hL fun h₅ S₅ _ => ?_))
    refine wpAny_bind (wpAny_assign_Name (stP S₅ hL fun h₆ S₆ _ => ?_))
    refine wpAny_pure ?_
    have eL : ∃ t, some (Value.int (rowOf ns (4 + 0) (vOf ns).n) t0) = some (.int ((vOf ns).left : Int) t) := ⟨t0, by rw [show ((vOf ns).left : Int) = rowOf ns 4 (vOf ns).n from row_nat _ _ _]⟩
    have eR : ∃ t, some (Value.int (rowOf ns (4 + 1) (vOf ns).n) t1) = some (.int ((vOf ns).right : Int) t) := ⟨t1, by rw [show ((vOf ns).right : Int) = rowOf ns 5 (vOf ns).n from row_nat _ _ _]⟩
    have eU : ∃ t, some (Value.int (rowOf ns (4 + 2) (vOf ns).n) t2) = some (.int ((vOf ns).upper : Int) t) := ⟨t2, by rw [show ((vOf ns).upper : Int) = rowOf ns 6 (vOf ns).n from row_nat _ _ _]⟩
    have eW : ∃ t, some (Value.int (rowOf ns (4 + 3) (vOf ns).n) t3) = some (.int ((vOf ns).lower : Int) t) := ⟨t3, by rw [show ((vOf ns).lower : Int) = rowOf ns 7 (vOf ns).n from row_nat _ _ _]⟩
    dsimp only at S₆ ⊢
    -- secret
    refine wpAny_execs_cons ?_
    walk_at "mw"
    walk_at "mw"
    refine ev_mixed0 (x1 := "left") S₆ G hth hn16 (by walk_at "dp") hh vo.left eL fun h₇ t₇ k₇ K₇ => ?_
    have S₇ := S₆.kp K₇
    refine ev_mixed0 (x1 := "right") S₇ G hth hn16 (by walk_at "dp") hh vo.right eR fun h₈ t₈ k₈ K₈ => ?_
    have S₈ := S₇.kp K₈
    refine KBy.add_bytes (by simp [enc_length]; omega) fun t₉ k₉ => ?_
    rw [show (enc (vOf ns).n (vOf ns).left).toArray ++ (enc (vOf ns).n (vOf ns).right).toArray = (vOf ns).secret.toArray by simp [Vl.secret]]
    refine stP S₈ hL fun h₉ S₉ _ => ?_
    dsimp only at S₉ ⊢
    -- wanted
    refine wpAny_execs_cons ?_
    walk_at "mw"
    walk_at "mw"
    refine ev_mixed0 (x1 := "upper") S₉ G hth hn16 (by walk_at "dp") hh vo.upper eU fun h₁₀ t₁₀ k₁₀ K₁₀ => ?_
    have S₁₀ := S₉.kp K₁₀
    refine ev_mixed0 (x1 := "lower") S₁₀ G hth hn16 (by walk_at "dp") hh vo.lower eW fun h₁₁ t₁₁ k₁₁ K₁₁ => ?_
    have S₁₁ := S₁₀.kp K₁₁
    refine KBy.add_bytes (by simp [enc_length]; omega) fun t₁₂ k₁₂ => ?_
    rw [show (enc (vOf ns).n (vOf ns).upper).toArray ++ (enc (vOf ns).n (vOf ns).lower).toArray = (vOf ns).wanted.toArray by simp [Vl.wanted]]
    refine stP S₁₁ hL fun h₁₂ S₁₂ _ => ?_
    dsimp only at S₁₂ ⊢
    -- rows
    have d1 : h₁₂.IsCell (L + 1) (some (.ref sl)) := Kc.script ▸ S₁₂.X.cell "script" _ rfl
    have d2 : h₁₂.IsCell (L + 8) (some (.int ((vOf ns).n : Int) th)) := hth ▸ S₁₂.X.cell "half" _ rfl
    refine wpAny_execs_cons (Assign_ListComp_range (n := 10) (cl := [("script", L + 1), ("half", L + 8)]) (fun i y => ∃ t, y = .int (rowOf ns (8 + i) (vOf ns).n) t) hh (by decide) (by rfl) S₁₂.F.ns (fun Q' hQ' => ?_) (fun C i ti s₃ m₃ E' hi hN hm hk => ?_) fun D₂ h₁₃ tk₁₃ zs hD₂ hl₁₃ hlen₁₃ hR₁₃ ns₁₃ e₁₃ => ?_)
    · walk_at "mw"
      refine nmB (G.keeps S₁₂.F.keep) (G.free _ (by decide)) (by boot_fast) ?_
      refine PyProof.Rows.callWith_type1 ?_
      walk_at "mw"
      walk_at "mw"
      refine wpAny_items_nil (call_range_1 ?_)
      exact hQ' _ _ _ _ _ _ (IsRange.new _ _ _ _ _ _ _) fun b o e => Heap.get?_push_of_some _ e
    · exact row_elt (b := 8) rfl P (fun b o e => hk _ _ (S₁₂.F.keep _ _ e)) (d1.keeps hk) (d2.keeps hk) hn16 hN hm (by walk_at "dp") (by rfl) (by rfl) (by rfl) (by rfl) (by rfl)
    · have S₁₃ : PSt b0 L _ cm h₁₃ := ⟨⟨ns₁₃, fun b o q => e₁₃ _ _ (fun z => by have z' : b = L := z; rw [z', nL] at q; cases q) (S₁₂.F.keep _ _ q), S₁₂.F.above⟩, S₁₂.X.extBut e₁₃ (Nat.le_refl _), e₁₃ _ _ (PSt.n30 hL).1 S₁₂.t30, e₁₃ _ _ (PSt.n30 hL).2 S₁₂.t143⟩
      have hri : IntsAre zs ((vOf ns).r.map fun r : Nat => (r : Int)) := by
        have := intsAre_of (f := fun k => rowOf ns (8 + k) (vOf ns).n) zs 0 fun i v e => by rw [Nat.zero_add]; exact hR₁₃ i v e
        rw [hlen₁₃, ← List.range_eq_range'] at this
        have e : ((vOf ns).r.map fun r : Nat => (r : Int)) = (List.range 10).map fun k => rowOf ns (8 + k) (vOf ns).n := by
          show ((List.range 10).map fun k => (rowOf ns (8 + k) (vOf ns).n).toNat).map _ = _
          rw [List.map_map]
          exact List.map_congr_left fun k _ => row_nat _ _ _
        rw [e]; exact this
      have row : ∀ i, i < 10 → ∃ t, zs[i]? = some (.int (((vOf ns).ri i : Nat) : Int) t) := fun i hi => by
        obtain ⟨x, tx, e, hx⟩ := IntsAre.at hri i zs[i] (List.getElem?_eq_getElem (by walk_at "dp"))
        have hl := vo.len
        rw [List.getElem?_map, List.getElem?_eq_getElem (by walk_at "dp")] at hx
        simp only [Option.map_some, Option.some.injEq] at hx
        refine ⟨tx, ?_⟩
        rw [List.getElem?_eq_getElem (by walk_at "dp"), e, ← hx]
        unfold Vl.ri
        rw [List.getD, List.getElem?_eq_getElem (by walk_at "dp")]; rfl
      obtain ⟨tr0, er0⟩ := row 0 (by decide)
      obtain ⟨tr1, er1⟩ := row 1 (by decide)
      obtain ⟨tL, eL'⟩ := eL
      obtain ⟨tR, eR'⟩ := eR
      obtain ⟨tU, eU'⟩ := eU
      obtain ⟨tW, eW'⟩ := eW
      -- answers
      refine wpAny_execs_cons ?_
      walk_at "mw"
      walk_at "mw"
      walk_at "mw"
      refine Subscript_ (nmL S₁₃.F rfl ?_)
      refine wpAny_Slice (wpAny_evalPart_none (wpAny_evalPart_some ?_))
      walk_at "mw"
      refine wpAny_evalPart_none ?_
      refine lslice_raw hl₁₃.isList .none (.int _ _) (by walk_at "dp") fun Da h₁₄ K₁₄ hDa hl₁₄ => ?_
      have S₁₄ := S₁₃.kp K₁₄
      have zl₁₄ := isList_kp hl₁₃.isList K₁₄
      refine wpAny_List ?_
      walk_at "mw"
      walk_at "mw"
      walk_at "mw"
      refine nmL S₁₄.F eL' ?_
      refine Subscript_ (nmL S₁₄.F rfl ?_)
      walk_at "mw"
      refine item_list zl₁₄ (by walk_at "dp") (by walk_at "dp") (x := .int (((vOf ns).ri 0 : Nat) : Int) tr0) (by simpa using er0) (xor_int ?_)
      refine nmL S₁₄.F eW' (xor_int ?_)
      rw [bitXor_nat, bitXor_nat]
      walk_at "mw"
      walk_at "mw"
      walk_at "mw"
      refine nmL S₁₄.F eR' ?_
      refine Subscript_ (nmL S₁₄.F rfl ?_)
      walk_at "mw"
      refine item_list zl₁₄ (by walk_at "dp") (by walk_at "dp") (x := .int (((vOf ns).ri 1 : Nat) : Int) tr1) (by simpa using er1) (xor_int ?_)
      refine nmL S₁₄.F eU' (xor_int ?_)
      rw [bitXor_nat, bitXor_nat]
      refine wpAny_items_nil ⟨by rw [sizeLine_eq]; simp, ?_⟩
      refine ladd_raw (isList_kp hl₁₄.isList fun _ _ e => Heap.get?_push_of_some _ e) ⟨_, Heap.get?_push_size _ rfl, rfl, _, rfl⟩ (by simp [cutOf]; omega) fun h₁₆ K₁₆' hl₁₆ => ?_
      have K₁₆ : Kp h₁₄ h₁₆ := fun b o e => K₁₆' _ _ (Heap.get?_push_of_some _ e)
      have S₁₆ := S₁₄.kp K₁₆
      have zl₁₆ := isList_kp zl₁₄ K₁₆
      dsimp only
      refine Subscript_ (nmL S₁₆.F rfl ?_)
      refine wpAny_Slice (wpAny_evalPart_some ?_)
      walk_at "mw"
      refine wpAny_evalPart_none (wpAny_evalPart_none ?_)
      refine lslice_raw zl₁₆ (.int _ _) .none (by walk_at "dp") fun Db h₁₇ K₁₇ hDb hl₁₇ => ?_
      have S₁₇ := S₁₆.kp K₁₇
      refine ladd_raw (isList_kp hl₁₆.isList K₁₇) hl₁₇.isList (by simp [cutOf]; omega) fun h₁₈ K₁₈ hl₁₈ => ?_
      have S₁₈ := S₁₇.kp K₁₈
      have zl₁₈ := isList_kp (isList_kp zl₁₆ K₁₇) K₁₈
      refine stPc (c := L + 4) S₁₈ hL rfl fun h₁₉ S₁₉ D₁₉ => ?_
      obtain ⟨oc, hoc, hdc⟩ := S₁₈.X.cell "answers" _ rfl
      have la₁₉ : h₁₉.IsList _ _ := let ⟨cc, e⟩ := hl₁₈; ⟨_, D₁₉.extBut _ _ (fun q => by rw [q, hoc] at e; cases e; cases hdc) e, rfl, _, rfl⟩
      have zl₁₉ : h₁₉.IsList D₂ zs.toArray := let ⟨o, ho, hc, n, hd⟩ := zl₁₈; ⟨o, D₁₉.extBut _ _ (fun q => by rw [q, hoc] at ho; cases ho; rw [hdc] at hd; cases hd) ho, hc, n, hd⟩
      have ecl : cutOf zs none (some 2) = zs.take 2 := by
        unfold cutOf
        simp only [Option.elim, List.drop_zero, Nat.sub_zero]
        rw [show (2 : Int) = ((2 : Nat) : Int) from rfl, clipAt_nat, hlen₁₃]
        rfl
      have ecr : cutOf zs (some 2) none = zs.drop 2 := by
        unfold cutOf
        simp only [Option.elim]
        rw [show (2 : Int) = ((2 : Nat) : Int) from rfl, clipAt_nat, hlen₁₃]
        exact List.take_of_length_le (by simp [hlen₁₃])
      rw [ecl, ecr] at la₁₉
      dsimp only
      refine law13 (s := { s with heap := h₁₉, toks := _, gens := s.gens }) (v := vOf ns) S₁₉.F S₁₉.X G P.M P.C34 P.C145 S₁₉.t30 S₁₉.t143 P.n30 P.n143 hL hg vo ⟨N1, N2, N3, N4, ⟨_, eL'⟩, ⟨_, eR'⟩, ⟨_, eU'⟩, ⟨_, eW'⟩, ⟨_, rfl⟩, ⟨_, rfl⟩⟩ Kc.exponent Kc.flag ⟨th, hth⟩ rfl la₁₉ ?_ rfl zl₁₉ hri P.hfr P.hroom P.hun hh hQ
      have e : ((vOf ns).ans.map fun r : Nat => (r : Int)) = ((vOf ns).r.map fun r : Nat => (r : Int)).take 2 ++ [(((vOf ns).left ^^^ (vOf ns).ri 0 ^^^ (vOf ns).lower : Nat) : Int), (((vOf ns).right ^^^ (vOf ns).ri 1 ^^^ (vOf ns).upper : Nat) : Int)] ++ ((vOf ns).r.map fun r : Nat => (r : Int)).drop 2 := by
        unfold Vl.ans
        rw [List.map_append, List.map_append, List.map_take, List.map_drop]
        rfl
      rw [e]
      exact ints_app (ints_app (ints_take 2 hri) (.cons _ _ (.cons _ _ .nil))) (ints_drop 2 hri)
end
end

section
set_option linter.unusedVariables false
set_option maxRecDepth 8000
section
variable {prog : Program} {w : World} {A : Around} {E : Value → Shared → Prop} {s : Shared} {L : Addr} {b0 : Heap} {m cm mg mb : Str → Option Value} {v : Vl} {K : Frag} {h h' : Heap}



/-- _law_octets(_law_number(script, k)) -/
theorem ev_octets {pf pf2 p1 p2 pos pos2 : Pos} {kk : Nat} {sl : Addr} {vs : List Value} {ns : List Int} {i : Nat} {Q : Value → Shared → Prop} (S : PSt b0 L m cm s.heap) (P : Pre K mg mb b0 L sl vs ns A) (hsc : cm "script" = some (.ref sl)) (hi : i < 100)
    (hQ : ∀ h' t k, Kp s.heap h' → Q (.bytes (octetsOf (ns.getD i 0)) t) { s with heap := h', toks := k }) :
    wpAny (model prog w) A (eval (.Call (.Name "_law_octets" pf2) [.Call (.Name "_law_number" pf) [.Name "script" p1, .Constant (.int (i : Int)) kk p2] [] pos] [] pos2) (envL L)) Q E s := by
  have G := P.G.keeps S.F.keep
  have hroom := P.hroom
  walk_at "mw"
  refine nmG G G.n_lo (callWith_F G.f_lo.at ?_)
  walk_at "mw"
  refine ev_number S P.G hsc P.hsl P.hvi P.hz (by walk_at "dp") hi fun h₁ t₁ k₁ K₁ => wpAny_items_nil ⟨(G.keeps K₁).f_lo.at, ?_⟩
  exact law_octets_call (G.keeps K₁) (by walk_at "dp") P.hh fun h₂ t₂ k₂ K₂ => hQ h₂ t₂ k₂ fun b o e => K₂ _ _ (K₁ _ _ e)

set_option maxHeartbeats 4000000 in
/-- law's body, whole -/
theorem law0 {Q : Flow → Shared → Prop} {sl : Addr} {vs : List Value} {ns : List Int} (P : Pre K mg mb b0 L sl vs ns A) (S : PSt b0 L m cm s.heap) (hg : AllBare s.gens) (hsc : cm "script" = some (.ref sl))
    (hQ : ∀ h' k gs m', AllBare gs → Fr b0 L h' m' → XT h' → (∃ ps, h'.get? 143 = some (tabObj ps)) → Q (.ret (.bool true)) { s with heap := h', toks := k, gens := gs }) :
    wpAny (model prog w) A (execs (rest 0) (envL L)) Q E s := by
  have hL := P.hL
  have hroom := P.hroom
  have G := P.G
  -- number
  refine wpAny_execs_cons ?_
  walk_at "mw"
  refine ev_number (i := 0) S G hsc P.hsl P.hvi P.hz (by walk_at "dp") (by decide) fun h₁ t₁ k₁ K₁ => ?_
  have S₁ := S.kp K₁
  refine stP S₁ hL fun h₂ S₂ _ => ?_
  dsimp only at S₂ ⊢
  -- half
  refine wpAny_execs_cons ?_
  walk_at "mw"
  walk_at "mw"
  walk_at "mw"
  refine nmL S₂.F rfl ?_
  walk_at "mw"
  refine add_int ?_
  walk_at "mw"
  refine mod_int' (by decide) ?_
  have en : ((ns.getD 0 0 + 16).fmod 17) = (((vOf ns).n : Nat) : Int) := (Int.toNat_of_nonneg (fmod_rng _ (by decide)).1).symm
  rw [en]
  refine stPc (c := L + 8) S₂ hL rfl fun h₃ S₃ _ => ?_
  dsimp only at S₃ ⊢
  -- flag
  refine wpAny_execs_cons ?_
  walk_at "mw"
  walk_at "mw"
  walk_at "mw"
  walk_at "mw"
  refine nmL S₃.F rfl ?_
  walk_at "mw"
  refine floordiv_int (by decide) ?_
  walk_at "mw"
  refine mod_int' (by decide) ?_
  walk_at "mw"
  refine eq_int ?_
  refine stPc (c := L + 7) S₃ hL rfl fun h₄ S₄ _ => ?_
  dsimp only at S₄ ⊢
  -- exponent
  refine wpAny_execs_cons ?_
  walk_at "mw"
  walk_at "mw"
  walk_at "mw"
  refine nmL S₄.F rfl ?_
  walk_at "mw"
  refine floordiv_int (by decide) ?_
  walk_at "mw"
  refine mod_int' (by decide) ?_
  have ee : (((ns.getD 0 0).fdiv 34).fmod 16) = (((vOf ns).e : Nat) : Int) := (Int.toNat_of_nonneg (fmod_rng _ (by decide)).1).symm
  rw [ee]
  refine stPc (c := L + 6) S₄ hL rfl fun h₅ S₅ _ => ?_
  dsimp only at S₅ ⊢
  -- identifier
  refine wpAny_execs_cons ?_
  walk_at "mw"
  walk_at "mw"
  refine ev_number (i := 1) S₅ G hsc P.hsl P.hvi P.hz (by walk_at "dp") (by decide) fun h₆ t₆ k₆ K₆ => ?_
  walk_at "mw"
  refine mod_int' (by decide) ?_
  have ei : (ns.getD 1 0).fmod 32768 = (((vOf ns).ident : Nat) : Int) := (Int.toNat_of_nonneg (fmod_rng _ (by decide)).1).symm
  rw [ei]
  have S₆ := S₅.kp K₆
  refine stP S₆ hL fun h₇ S₇ _ => ?_
  dsimp only at S₇ ⊢
  -- other
  refine wpAny_execs_cons ?_
  walk_at "mw"
  walk_at "mw"
  walk_at "mw"
  refine ev_number (i := 1) S₇ G hsc P.hsl P.hvi P.hz (by walk_at "dp") (by decide) fun h₈ t₈ k₈ K₈ => ?_
  walk_at "mw"
  refine floordiv_int (by decide) ?_
  walk_at "mw"
  refine mod_int' (by decide) ?_
  have eo : ((ns.getD 1 0).fdiv 32768).fmod 32768 = (((vOf ns).other : Nat) : Int) := (Int.toNat_of_nonneg (fmod_rng _ (by decide)).1).symm
  rw [eo]
  have S₈ := S₇.kp K₈
  refine stP S₈ hL fun h₉ S₉ _ => ?_
  dsimp only at S₉ ⊢
  -- mine
  refine wpAny_execs_cons ?_
  walk_at "mw"
  refine ev_octets (i := 2) S₉ P hsc (by decide) fun h₁₀ t₁₀ k₁₀ K₁₀ => ?_
  have S₁₀ := S₉.kp K₁₀
  refine stP S₁₀ hL fun h₁₁ S₁₁ _ => ?_
  dsimp only at S₁₁ ⊢
  -- yours
  refine wpAny_execs_cons ?_
  walk_at "mw"
  refine ev_octets (i := 3) S₁₁ P hsc (by decide) fun h₁₂ t₁₂ k₁₂ K₁₂ => ?_
  have S₁₂ := S₁₁.kp K₁₂
  refine stP S₁₂ hL fun h₁₃ S₁₃ _ => ?_
  dsimp only at S₁₃ ⊢
  have e2 : (octetsOf (ns.getD 2 0)) = (vOf ns).mine.toArray := by show _ = (octetsOf (ns.getD 2 0)).toList.toArray; rw [Array.toArray_toList]
  have e3 : (octetsOf (ns.getD 3 0)) = (vOf ns).yours.toArray := by show _ = (octetsOf (ns.getD 3 0)).toList.toArray; rw [Array.toArray_toList]
  exact law8 (s := { s with heap := h₁₃, toks := _, gens := s.gens }) P S₁₃ hg ⟨hsc, ⟨_, rfl⟩, rfl, ⟨_, rfl⟩⟩ ⟨_, rfl⟩ ⟨_, rfl⟩ ⟨t₁₀, by rw [← e2]; rfl⟩ ⟨t₁₂, by rw [← e3]; rfl⟩ hQ
end
end

section
set_option linter.unusedVariables false
set_option maxRecDepth 8000
section
variable {prog : Program} {w : World} {A : Around} {E : Value → Shared → Prop} {s : Shared} {L : Addr} {b0 : Heap} {m cm mg mb : Str → Option Value} {v : Vl} {K : Frag} {h h' : Heap}

/-- a call of law -/
theorem law_call {sl : Addr} {vs : List Value} {ns : List Int} {Q : Value → Shared → Prop} (G : Gl mg mb (hideAll s.heap [30, 143])) (M : Em K mg (hideAll s.heap [30, 143])) (C34 : CodeHd (hideAll s.heap [30, 143]) 34 30) (C145 : CodeHd (hideAll s.heap [30, 143]) 145 143)
    (t30 : s.heap.get? 30 = some (tabObj #[])) (t143 : s.heap.get? 143 = some (tabObj #[])) (hf : FnIs s.heap 146 145 "law" (stm 23)) (hsl : s.heap.IsList sl vs.toArray) (hvi : IntsAre vs ns) (hz : ns.length ≤ 63) (hmul : ∀ p : Nat, p < 100 → IntMulOk (ns.getD p 0 + p) oddC)
    (hg : AllBare s.gens) (hfr : A.frames = some []) (hroom : A.depth + 300 < recursionLimit) (hun : A.units + 300 < cLine) (hh : A.handled = none)
    (hQ : ∀ h' k gs, AllBare gs → (∀ b o, b ≠ (30 : Addr) → b ≠ (143 : Addr) → s.heap.get? b = some o → h'.get? b = some o) → (∃ ps, h'.get? 30 = some (tabObj ps)) → (∃ ps, h'.get? 143 = some (tabObj ps)) → Q (.bool true) { s with heap := h', toks := k, gens := gs }) :
    wpAny (model prog w) A (call (.ref 146) [.ref sl]) Q E s := by
  have hkh : Kp (hideAll s.heap [30, 143]) s.heap := fun b o e => of_hideAll _ e
  refine call_defC (binds := [("script", .ref sl)]) (by walk_at "dp") (G.lim.keeps hkh) hf (by intro _ _; rfl) (by exact kinds_of (by kinds_ok)) fun h₁ tk F₀ X => ?_
  have F := fr_hide (D := [30, 143]) F₀
  have hL : @LT.lt Nat _ 146 s.heap.objs.size := by
    obtain ⟨o, pm, doc, ho, _⟩ := hf
    exact Heap.lt_size ho
  have hslb : (hideAll s.heap [30, 143]).IsList sl vs.toArray := by
    obtain ⟨o, ho, hc, n, hd⟩ := hsl
    refine ⟨o, hideAll_get _ ho fun hm => ?_, hc, n, hd⟩
    simp only [List.mem_cons, List.not_mem_nil, or_false] at hm
    rcases hm with rfl | rfl
    · rw [t30] at ho; cases ho; cases hd
    · rw [t143] at ho; cases ho; cases hd
  refine law0 (A := A.deeper (envL s.heap.objs.size)) (L := s.heap.objs.size) (s := { s with heap := h₁, toks := tk }) (K := K)
    ⟨G, M, C34, C145, hideAll_none _ (.head _), hideAll_none _ (.tail _ (.head _)), hL, hslb, hvi, hz, hmul, Around.frames_deeper hfr, by show A.depth + 1 + 250 < _; walk_at "dp", by show A.units + 3 + 250 < _; walk_at "dp", hh⟩
    ⟨F, X, F₀.keep _ _ t30, F₀.keep _ _ t143⟩ hg rfl fun h' k gs m' hg' F' X' t' => ?_
  refine hQ h' k gs hg' (fun b o h1 h2 e => F'.keep _ _ (hideAll_get _ e (by simp [h1, h2]))) ?_ t'
  obtain ⟨ps, _, ht⟩ := X'
  exact ⟨ps, ht.2⟩
end
end

section
set_option maxRecDepth 100000
set_option linter.unusedVariables false
theorem hideIn {P : Params} {h : Heap} (X : (kf P).In h) : (kf P).In (hideAll h [30, 143]) := fun a o e => hideAll_get _ (X a o e) fun hm => by
  simp only [List.mem_cons, List.not_mem_nil, or_false] at hm
  have h1 : ((kf P).lookup 30).isNone = true := by kernel_rfl
  have h2 : ((kf P).lookup 143).isNone = true := by kernel_rfl
  rcases hm with rfl | rfl
  · rw [e] at h1; cases h1
  · rw [e] at h2; cases h2
theorem nsHide {h : Heap} {a : Addr} {mg : Str → Option Value} (x : h.Ns a mg) (h1 : a ≠ 30) (h2 : a ≠ 143) : (hideAll h [30, 143]).Ns a mg :=
  let ⟨o, es, ep, e, r⟩ := x; ⟨o, es, ep, hideAll_get _ e (by simp [h1, h2]), r⟩
theorem fnK {P : Params} {h : Heap} {f c : Addr} {name : Str} {st : Stmt} (X : (kf P).In h)
    (e1 : ∃ o, (kf P).lookup f = some o ∧ ∃ pm doc, o.data = .func (Calls.docDef name (parOf st) (bodOf st) (scoOf st) pm (.ref c) doc))
    (e2 : ∃ o vs t, (kf P).lookup c = some o ∧ o.data = .fields vs ∧ vs[1]? = some (.str name t)) : FnIs h f c name st :=
  let ⟨o, a, pm, doc, d⟩ := e1
  let ⟨oc, vs, t, a', d', v⟩ := e2
  ⟨o, pm, doc, X _ _ a, d, c, oc, vs, t, rfl, X _ _ a', d', v⟩
theorem mtK {P : Params} {h : Heap} {f c : Addr} {name qual : Str} {st : Stmt} (X : (kf P).In h)
    (e1 : ∃ od pm doc an, (kf P).lookup f = some { cls := .type "function", dict := od, data := .func (fnX name qual (parOf st) (bodOf st) (scoOf st) [] .none .none doc pm an (.ref c) .none) })
    (e2 : ∃ o vs t, (kf P).lookup c = some o ∧ o.data = .fields vs ∧ vs[1]? = some (.str qual t)) : MthIs h f c name qual st :=
  let ⟨od, pm, doc, an, a⟩ := e1
  let ⟨oc, vs, t, a', d', v⟩ := e2
  ⟨od, pm, doc, an, X _ _ a, c, oc, vs, t, rfl, X _ _ a', d', v⟩
theorem kfX (P : Params) : KF (kf P) := ⟨by kernel_rfl, by kernel_rfl, by kernel_rfl, by kernel_rfl, by kernel_rfl, by kernel_rfl, by kernel_rfl, by kernel_rfl, by kernel_rfl, by kernel_rfl, by kernel_rfl, by kernel_rfl, by kernel_rfl, by kernel_rfl, by kernel_rfl, by kernel_rfl, by kernel_rfl, by kernel_rfl, by kernel_rfl, by kernel_rfl, by kernel_rfl, by kernel_rfl, by kernel_rfl, by kernel_rfl⟩
theorem emX {P : Params} {h : Heap} {mg : Str → Option Value} (X : (kf P).In h) (G : h.Ns mainGlobals mg) : Em (kf P) mg (hideAll h [30, 143]) where
  kf := kfX P
  k := hideIn X
  n_c := mg_of X G (by kernel_rfl)
  m_i := mtK (hideIn X) ⟨_, _, _, _, rfl⟩ ⟨_, _, _, rfl, rfl, rfl⟩
  m_f := mtK (hideIn X) ⟨_, _, _, _, rfl⟩ ⟨_, _, _, rfl, rfl, rfl⟩
  m_d := mtK (hideIn X) ⟨_, _, _, _, rfl⟩ ⟨_, _, _, rfl, rfl, rfl⟩
theorem glX {P : Params} {h : Heap} {mg mb : Str → Option Value} {p : Program} {loose : List Str} {mean : ExcName → Option Value} (X : (kf P).In h) (T : Top p loose mean mg mb h) (t30 : h.get? 30 = some (tabObj #[])) (t143 : h.get? 143 = some (tabObj #[])) : Gl mg mb (hideAll h [30, 143]) where
  g := nsHide T.g (by decide) (by decide)
  b := nsHide T.b (by decide) (by decide)
  lim := let ⟨mc, a, b⟩ := T.nolimit; ⟨mc, nsHide a (by decide) (by decide), b⟩
  boot := T.builtins
  free := by
    intro x hx
    simp only [List.mem_cons, List.not_mem_nil, or_false] at hx
    rcases hx with rfl | rfl | rfl | rfl | rfl | rfl | rfl | rfl | rfl <;> exact ns_none_of X T.g (by kernel_rfl)
  bmain := by
    obtain ⟨bm, ob, a1, a2, a3, a4, r⟩ := T.bmain
    refine ⟨bm, ob, a1, a2, hideAll_get _ a3 fun hm => ?_, a4, r⟩
    simp only [List.mem_cons, List.not_mem_nil, or_false] at hm
    rcases hm with rfl | rfl
    · rw [t30] at a3; cases a3; cases a4
    · rw [t143] at a3; cases a3; cases a4
  odd := let ⟨t, e⟩ : ∃ t, nsIn (kf P) mainGlobals "_law_odd" = some (some (.int 9237271112258064195694948353538909955570399 t)) := ⟨_, rfl⟩; ⟨t, mg_of X T.g e⟩
  idl := let ⟨t, e⟩ : ∃ t, nsIn (kf P) mainGlobals "ID_LENGTH_BITS" = some (some (.int 15 t)) := ⟨_, rfl⟩; ⟨t, mg_of X T.g e⟩
  cus := let ⟨t, e⟩ : ∃ t, nsIn (kf P) mainGlobals "CUSTOMIZATION_STRING_ORIG" = some (some (.bytes #[115, 104, 97, 109, 105, 114] t)) := ⟨_, rfl⟩; ⟨t, mg_of X T.g e⟩
  base := let ⟨t, e⟩ : ∃ t, nsIn (kf P) mainGlobals "BASE_ITERATION_COUNT" = some (some (.int 10000 t)) := ⟨_, rfl⟩; ⟨t, mg_of X T.g e⟩
  rnd := let ⟨t, e⟩ : ∃ t, nsIn (kf P) mainGlobals "ROUND_COUNT" = some (some (.int 4 t)) := ⟨_, rfl⟩; ⟨t, mg_of X T.g e⟩
  n_rb := mg_of X T.g (by kernel_rfl)
  f_rb := fnK (hideIn X) ⟨_, rfl, _, _, rfl⟩ ⟨_, _, _, rfl, rfl, rfl⟩
  n_bb := mg_of X T.g (by kernel_rfl)
  f_bb := fnK (hideIn X) ⟨_, rfl, _, _, rfl⟩ ⟨_, _, _, rfl, rfl, rfl⟩
  n_xor := mg_of X T.g (by kernel_rfl)
  f_xor := fnK (hideIn X) ⟨_, rfl, _, _, rfl⟩ ⟨_, _, _, rfl, rfl, rfl⟩
  n_rf := mg_of X T.g (by kernel_rfl)
  f_rf := fnK (hideIn X) ⟨_, rfl, _, _, rfl⟩ ⟨_, _, _, rfl, rfl, rfl⟩
  n_gs := mg_of X T.g (by kernel_rfl)
  f_gs := fnK (hideIn X) ⟨_, rfl, _, _, rfl⟩ ⟨_, _, _, rfl, rfl, rfl⟩
  n_enc := mg_of X T.g (by kernel_rfl)
  f_enc := fnK (hideIn X) ⟨_, rfl, _, _, rfl⟩ ⟨_, _, _, rfl, rfl, rfl⟩
  n_dec := mg_of X T.g (by kernel_rfl)
  f_dec := fnK (hideIn X) ⟨_, rfl, _, _, rfl⟩ ⟨_, _, _, rfl, rfl, rfl⟩
  n_dc := mg_of X T.g (by kernel_rfl)
  n_ln := mg_of X T.g (by kernel_rfl)
  f_ln := fnK (hideIn X) ⟨_, rfl, _, _, rfl⟩ ⟨_, _, _, rfl, rfl, rfl⟩
  n_lr := mg_of X T.g (by kernel_rfl)
  f_lr := fnK (hideIn X) ⟨_, rfl, _, _, rfl⟩ ⟨_, _, _, rfl, rfl, rfl⟩
  n_lo := mg_of X T.g (by kernel_rfl)
  f_lo := fnK (hideIn X) ⟨_, rfl, _, _, rfl⟩ ⟨_, _, _, rfl, rfl, rfl⟩
  n_lm := mg_of X T.g (by kernel_rfl)
  f_lm := fnK (hideIn X) ⟨_, rfl, _, _, rfl⟩ ⟨_, _, _, rfl, rfl, rfl⟩
  n_ls := mg_of X T.g (by kernel_rfl)
  f_ls := fnK (hideIn X) ⟨_, rfl, _, _, rfl⟩ ⟨_, _, _, rfl, rfl, rfl⟩
theorem lawX {P : Params} {h : Heap} (X : (kf P).In h) : FnIs h 146 145 "law" (stm 23) := fnK X ⟨_, rfl, _, _, rfl⟩ ⟨_, _, _, rfl, rfl, rfl⟩
theorem cdX {P : Params} {h : Heap} (X : (kf P).In h) : CodeHd (hideAll h [30, 143]) 34 30 ∧ CodeHd (hideAll h [30, 143]) 145 143 :=
  ⟨codeHd_of_K (hideIn X) (by kernel_rfl), codeHd_of_K (hideIn X) (by kernel_rfl)⟩
theorem mulX {ns : List Int} (h : PyData.layable0 (.list (ns.map .int)) = true) (p : Nat) (hp : p < 100) : IntMulOk (ns.getD p 0 + p) oddC := by
  have h1 := bits_getD (i := p) h
  have h2 : Builtin.Int.intBits ((p : Nat) : Int) ≤ 64 := intBits_cast_le (by rw [sizeLine_eq]; omega)
  have h3 : Builtin.Int.intBits oddC ≤ 200 := by decide +kernel
  exact IntMulOk.of_le (intBits_add_le h1 h2) h3 (by decide)
end
end Mine
namespace Mine
def pg : Program := { PySem.Challenge.pw_lb0022_01 with main := { PySem.Challenge.pw_lb0022_01.main with body := [stm 0, stm 1, stm 2, stm 3, stm 4, stm 5, stm 6, stm 7, stm 8, stm 9, stm 10, stm 11, stm 12, stm 13, stm 14, stm 15, stm 16, stm 17, stm 18, stm 19, stm 20, stm 21, stm 22, stm 23] } }
theorem pg_eq : pg = PySem.Challenge.pw_lb0022_01 := by kernel_rfl
theorem row_eq : { PySem.Challenge.rw_lb0022_01.row with prog := pg } = PySem.Challenge.rw_lb0022_01.row := by kernel_rfl
theorem row_of (h : OpenRow.Holds { PySem.Challenge.rw_lb0022_01.row with prog := pg }) : OpenRow.Holds PySem.Challenge.rw_lb0022_01.row := by rw [← row_eq]; exact h
end Mine
set_option maxRecDepth 100000 in
set_option maxHeartbeats 8000000 in
theorem PySem.Challenge.cw_lb0022_01_holds : PySem.Challenge.rw_lb0022_01.Holds := by
  w_on
  o_law
  refine Mine.row_of ?_
  o_head (kmHook Mine.kf Mine.kfAs Mine.kfAs_eq [30, 143])
  case hw => w_witness2
  w_strict (
  intro w s₀ s₁ mg mb G Y fa o pm cd doc dV kV ho hd hcd hD hmg hg args vals as hpre hlay hrd hwl hlo
  have KX := km_in_of Y
  km_tabs Y
  have X := (Ground.X G).1
  have V := (Ground.X G).2
  refine Ground.open G ?_
  intro T B D TE TW
  try (refine guard_noD D (by decide +kernel) ?_; clear D)
  have hfa : fa = 146 := by
    have h1 : mg "law" = some (.ref fa) := hmg
    have h2 : mg "law" = some (.ref 146) := mg_of KX T.g (by kernel_rfl)
    rw [h1] at h2
    injection h2 with h2
    injection h2
  subst hfa
  clear hd hcd hD ho hmg
  wrow_args hpre hlay hrd hwl hlo
  all_goals (
    rename (PyData.layable0 _ = true) => hL0
    rename (IntsAre _ _) => hvi
    rename (Heap.IsList _ _ _) => hsl
    rename (∀ P : Addr, P ∈ _ → _) => hT
    rename (¬ _ < _) => hlen
    have t30 : s₁.heap.get? 30 = some (tabObj #[]) := hT 30 (.head _)
    have t143 : s₁.heap.get? 143 = some (tabObj #[]) := hT 143 (.tail _ (.head _))
    have cds := Mine.cdX KX
    show wpAny _ _ (call _ _) _ _ _
    refine Mine.law_call (K := Mine.kf w.params) (Mine.glX KX T t30 t143) (Mine.emX KX T.g) cds.1 cds.2 t30 t143 (Mine.lawX KX) hsl hvi (by omega) (Mine.mulX hL0) (AllBare.of_eq hg) rfl (by decide +kernel) (by decide +kernel) rfl fun h' k gs hg' keep g30 g143 => ?_
    refine ⟨.inl ⟨.bool true, .bool true, [], rfl, fun _ => rfl, .bool true, ?_, fun _ => ⟨List.nodup_nil, by simp⟩⟩, ⟨fun b o e => ?_, fun b o e => ?_⟩, rfl, hg'⟩
    · refine postW_of (X := true) ?_ ?_ rfl <;> first | rfl | kernel_rfl
    · by_cases h1 : b = (30 : Addr)
      · subst h1
        rw [t30] at e
        cases e
        obtain ⟨ps, hP⟩ := g30
        exact .inr (.inl ⟨(((Mine.cdX KX).1.keeps (fun b o e => of_hideAll _ e)).tab t30).isCodeTable, rfl, #[], ps, rfl, by rw [Array.empty_append]; exact hP⟩)
      · by_cases h2 : b = (143 : Addr)
        · subst h2
          rw [t143] at e
          cases e
          obtain ⟨ps, hP⟩ := g143
          exact .inr (.inl ⟨(((Mine.cdX KX).2.keeps (fun b o e => of_hideAll _ e)).tab t143).isCodeTable, rfl, #[], ps, rfl, by rw [Array.empty_append]; exact hP⟩)
        · exact .inl (keep b o h1 h2 e)
    · by_cases h1 : b = (30 : Addr)
      · subst h1
        obtain ⟨ps, hP⟩ := g30
        exact ⟨_, hP⟩
      · by_cases h2 : b = (143 : Addr)
        · subst h2
          obtain ⟨ps, hP⟩ := g143
          exact ⟨_, hP⟩
        · exact ⟨o, keep b o h1 h2 e⟩))
