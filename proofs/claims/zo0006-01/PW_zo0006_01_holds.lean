import PyProof.Rows.All
import Wide.All
import OpenK.AllK
import Wide.FinOn
import PySem.Challenge.RW_zo0006_01
open PySem PySem.W PyProof.Rows PyProof.V PySem.Spec PySem.Calls
set_option Elab.async false
set_option linter.all false
set_option compiler.extract_closed false
set_option maxRecDepth 100000
set_option maxHeartbeats 4000000
set_option rowWalk.seconds 0
namespace Mine
def kH : Lean.MacroM Lean.Syntax := do return (← `(tactic| refine $(Lean.mkIdent `Mine.hold) ?_)).raw
def kA (x : Lean.Name) : Lean.MacroM Lean.Syntax := do return (← `(tactic| k_dflt (refine $(Lean.mkIdent x) (h := ?_)))).raw
def kS (x : Lean.Name) : Lean.MacroM Lean.Syntax := do return (← `(tactic| k_dflt (refine $(Lean.mkIdent x) (knd := strKind _ _) (h := ?_)))).raw
def kI : Nat → Lean.MacroM Lean.Syntax → Lean.MacroM Lean.Syntax
  | 0, x => x
  | n + 1, x => do
    let y : Lean.TSyntax `tactic := ⟨← kI n x⟩
    return (← `(tactic| ($y:tactic; intro t'))).raw
def kF (x y : Lean.MacroM Lean.Syntax) : Lean.MacroM Lean.Syntax := do
  let x : Lean.TSyntax `tactic := ⟨← x⟩
  let y : Lean.TSyntax `tactic := ⟨← y⟩
  return (← `(tactic| first | $x:tactic | $y:tactic)).raw
def kB (x : Lean.Name) : Lean.MacroM Lean.Syntax := do return (← `(tactic| k_dflt (refine $(Lean.mkIdent x) (by assumption) ?_))).raw
def kN (x : Lean.Name) (n : Nat) : Lean.MacroM Lean.Syntax := do return (← `(tactic| k_dflt (refine $(Lean.mkIdent x) (n := $(Lean.quote n)) (h := ?_)))).raw
def kJ : Lean.MacroM Lean.Syntax := do return (← `(tactic| (k_dflt (refine join_listW (by is_list) (by first | assumption | (rename ∀ _, StrsAre _ _ => hz; exact hz _)) (by decide +kernel) (by assumption) ?_); intro t' k'))).raw
def kR (n : Nat) : Lean.MacroM Lean.Syntax := do return (← `(tactic| ((with_reducible show wpAny _ _ (call (Value.ref $(Lean.quote n)) _) _ _ _); refine $(Lean.mkIdent `Mine.hold) ?_))).raw
def kL (x : Lean.Name) : Lean.MacroM Lean.Syntax := do return (← `(tactic| k_dflt (refine $(Lean.mkIdent x) (F₀ := by k_asm) (by with_unfolding_all rfl) (by decide) (by rfl) (by decide) (by rfl) ?_))).raw
def kW : Lean.MacroM Lean.Syntax := do return (← `(tactic| refine wpAny_Assign_Name ?_)).raw
def kX : Lean.MacroM Lean.Syntax := do return (← `(tactic| k_dflt (refine storeX_L (by k_asm) (by k_asm) ?_; intro h' F' N'; (try k_sweep)))).raw
def kP (s : Lean.TSyntax `str) (l : List (String × Lean.MacroM Lean.Syntax)) : Lean.MacroM Lean.Syntax := (l.lookup s.getString).getD Lean.Macro.throwUnsupported
open_top hd for PySem.Challenge.rw_zo0006_01
end Mine

/-! Base -/
namespace Mine

theorem ex2 {α0 : Sort _} {α1 : Sort _} {P : α0 → α1 → Prop} {G : Prop} (h : ∃ x0 x1, P x0 x1) (k : ∀ x0 x1, P x0 x1 → G) : G := by
  obtain ⟨x0, x1, p⟩ := h
  exact k x0 x1 p
theorem ex3 {α0 : Sort _} {α1 : Sort _} {α2 : Sort _} {P : α0 → α1 → α2 → Prop} {G : Prop} (h : ∃ x0 x1 x2, P x0 x1 x2) (k : ∀ x0 x1 x2, P x0 x1 x2 → G) : G := by
  obtain ⟨x0, x1, x2, p⟩ := h
  exact k x0 x1 x2 p
theorem ex4 {α0 : Sort _} {α1 : Sort _} {α2 : Sort _} {α3 : Sort _} {P : α0 → α1 → α2 → α3 → Prop} {G : Prop} (h : ∃ x0 x1 x2 x3, P x0 x1 x2 x3) (k : ∀ x0 x1 x2 x3, P x0 x1 x2 x3 → G) : G := by
  obtain ⟨x0, x1, x2, x3, p⟩ := h
  exact k x0 x1 x2 x3 p
theorem ex5 {α0 : Sort _} {α1 : Sort _} {α2 : Sort _} {α3 : Sort _} {α4 : Sort _} {P : α0 → α1 → α2 → α3 → α4 → Prop} {G : Prop} (h : ∃ x0 x1 x2 x3 x4, P x0 x1 x2 x3 x4) (k : ∀ x0 x1 x2 x3 x4, P x0 x1 x2 x3 x4 → G) : G := by
  obtain ⟨x0, x1, x2, x3, x4, p⟩ := h
  exact k x0 x1 x2 x3 x4 p
theorem ex6 {α0 : Sort _} {α1 : Sort _} {α2 : Sort _} {α3 : Sort _} {α4 : Sort _} {α5 : Sort _} {P : α0 → α1 → α2 → α3 → α4 → α5 → Prop} {G : Prop} (h : ∃ x0 x1 x2 x3 x4 x5, P x0 x1 x2 x3 x4 x5) (k : ∀ x0 x1 x2 x3 x4 x5, P x0 x1 x2 x3 x4 x5 → G) : G := by
  obtain ⟨x0, x1, x2, x3, x4, x5, p⟩ := h
  exact k x0 x1 x2 x3 x4 x5 p
theorem ex12 {α0 : Sort _} {α1 : Sort _} {α2 : Sort _} {α3 : Sort _} {α4 : Sort _} {α5 : Sort _} {α6 : Sort _} {α7 : Sort _} {α8 : Sort _} {α9 : Sort _} {α10 : Sort _} {α11 : Sort _} {P : α0 → α1 → α2 → α3 → α4 → α5 → α6 → α7 → α8 → α9 → α10 → α11 → Prop} {G : Prop} (h : ∃ x0 x1 x2 x3 x4 x5 x6 x7 x8 x9 x10 x11, P x0 x1 x2 x3 x4 x5 x6 x7 x8 x9 x10 x11) (k : ∀ x0 x1 x2 x3 x4 x5 x6 x7 x8 x9 x10 x11, P x0 x1 x2 x3 x4 x5 x6 x7 x8 x9 x10 x11 → G) : G := by
  obtain ⟨x0, x1, x2, x3, x4, x5, x6, x7, x8, x9, x10, x11, p⟩ := h
  exact k x0 x1 x2 x3 x4 x5 x6 x7 x8 x9 x10 x11 p
theorem ex7 {α0 : Sort _} {α1 : Sort _} {α2 : Sort _} {α3 : Sort _} {α4 : Sort _} {α5 : Sort _} {α6 : Sort _} {P : α0 → α1 → α2 → α3 → α4 → α5 → α6 → Prop} {G : Prop} (h : ∃ x0 x1 x2 x3 x4 x5 x6, P x0 x1 x2 x3 x4 x5 x6) (k : ∀ x0 x1 x2 x3 x4 x5 x6, P x0 x1 x2 x3 x4 x5 x6 → G) : G := by
  obtain ⟨x0, x1, x2, x3, x4, x5, x6, p⟩ := h
  exact k x0 x1 x2 x3 x4 x5 x6 p
theorem ex8 {α0 : Sort _} {α1 : Sort _} {α2 : Sort _} {α3 : Sort _} {α4 : Sort _} {α5 : Sort _} {α6 : Sort _} {α7 : Sort _} {P : α0 → α1 → α2 → α3 → α4 → α5 → α6 → α7 → Prop} {G : Prop} (h : ∃ x0 x1 x2 x3 x4 x5 x6 x7, P x0 x1 x2 x3 x4 x5 x6 x7) (k : ∀ x0 x1 x2 x3 x4 x5 x6 x7, P x0 x1 x2 x3 x4 x5 x6 x7 → G) : G := by
  obtain ⟨x0, x1, x2, x3, x4, x5, x6, x7, p⟩ := h
  exact k x0 x1 x2 x3 x4 x5 x6 x7 p
theorem lt4 {r : Nat} (h : r < 4) : r = 0 ∨ r = 1 ∨ r = 2 ∨ r = 3 := (by decide : ∀ r : Nat, r < 4 → (r = 0 ∨ r = 1 ∨ r = 2 ∨ r = 3)) r h
theorem lt10 {i : Nat} (h : i < 10) : i = 0 ∨ i = 1 ∨ i = 2 ∨ i = 3 ∨ i = 4 ∨ i = 5 ∨ i = 6 ∨ i = 7 ∨ i = 8 ∨ i = 9 := (by decide : ∀ i : Nat, i < 10 → (i = 0 ∨ i = 1 ∨ i = 2 ∨ i = 3 ∨ i = 4 ∨ i = 5 ∨ i = 6 ∨ i = 7 ∨ i = 8 ∨ i = 9)) i h
theorem dec_lt {i n : Nat} (h : i < n) : n + 1 - (i + 1) < n + 1 - i := Nat.sub_lt_sub_left (Nat.lt_succ_of_lt h) (Nat.lt_succ_self i)
theorem room0 {a k m L : Nat} (h : a + m < L) (hk : k ≤ m) : a + k < L := Nat.lt_of_le_of_lt (Nat.add_le_add_left hk a) h
theorem room1 {a k m L : Nat} (h : a + m < L) (hk : 1 + k ≤ m) : a + 1 + k < L := by rw [Nat.add_assoc]; exact room0 h hk
theorem room3 {a k m L : Nat} (h : a + m < L) (hk : 3 + k ≤ m) : a + 3 + k < L := by rw [Nat.add_assoc]; exact room0 h hk
theorem at_end {i n : Nat} (h : i ≤ n) (h' : ¬ i < n) : i = n := Nat.le_antisymm h (Nat.not_lt.mp h')
theorem gl_idx {L j n : Nat} (hj : j ≤ L) (hn : L - j = n + 1) : L - 1 - (L - j - 1) = j := by
  have hL : L = n + 1 + j := (Nat.sub_eq_iff_eq_add hj).mp hn
  rw [hn, hL, Nat.add_right_comm]
  show n + j - n = j
  exact Nat.add_sub_cancel_left ..
theorem gl_lt {L j n : Nat} (hn : L - j = n + 1) : j < L := Nat.sub_pos_iff_lt.mp (by rw [hn]; exact Nat.succ_pos n)
theorem gl_sub {L j n : Nat} (hn : L - j = n + 1) : L - (j + 1) = n := by rw [← Nat.sub_sub, hn]; rfl
theorem odd_add (a b : Int) : decide ((a + b) % 2 = 1) = (decide (a % 2 = 1) ^^ decide (b % 2 = 1)) := by
  rw [Int.add_emod]
  rcases Int.emod_two_eq a with h | h <;> rcases Int.emod_two_eq b with g | g <;> rw [h, g] <;> rfl
theorem odd_succ (k : Nat) : decide ((k + 1) % 2 = 1) = !decide (k % 2 = 1) := by
  rw [Nat.add_mod]
  rcases Nat.mod_two_eq_zero_or_one k with h | h <;> rw [h] <;> rfl
theorem odd_toNat {z : Int} (h : 0 ≤ z) : (z.toNat % 2 = 1) = (z % 2 = 1) := by
  obtain ⟨n, rfl⟩ := Int.eq_ofNat_of_zero_le h
  exact propext ⟨fun e => congrArg Nat.cast e, fun e => Int.ofNat_inj.mp e⟩
theorem tab_room {a b c w i : Nat} (h1 : a = b) (h2 : b ≤ 4 * min i w) (hw : w < 100) (h3 : c ≤ 4) : a + c < 1000 := by
  subst h1
  exact Nat.lt_of_le_of_lt (Nat.add_le_add (Nat.le_trans h2 (Nat.mul_le_mul_left 4 (Nat.le_trans (Nat.min_le_right _ _) (Nat.le_of_lt hw)))) h3) (by decide)
/-- the program of the row -/
noncomputable abbrev PG : Program := PySem.Challenge.rw_zo0006_01.row.prog

/-- a stop for the walk: what is left is done by hand -/
noncomputable def Hold (P : Prop) : Prop := P
theorem hold {P : Prop} (h : Hold P) : P := h

/-- where a call is made: the caller's frame and the text's own objects -/
structure Site (w : World) (K : Frag) (loose : List Str) (mean : ExcName → Option Value) (mg mb : Str → Option Value) (dp un : Nat) (cs : Scope) (outer : List Env)
    (A₀ : Around) (base h₀ : Heap) (L : Addr) (m : Str → Option Value) (n : Nat) (s : Shared) : Prop where
  B : Below A₀ base outer h₀
  F : Fr h₀ L s.heap m
  X : K.In h₀
  T : Top hd.view_39 loose mean mg mb h₀
  k : cs.kind = .function
  d : dp + n < recursionLimit
  u : un + 10 * n < cLine

section
variable {prog : Program} {w : World} {A₀ A : Around} {s : Shared} {base h₀ : Heap} {outer : List Env} {L : Addr} {m mg mb : Str → Option Value} {K : Frag} {p : Program} {loose : List Str} {mean : ExcName → Option Value}
  {env : Env} {R : Result → Shared → Prop} {name qual : Str} {params : Arguments} {body : List Stmt} {scope : Scope} {dV kV doc pm cdv ct oc : Value} {an od : Option Addr} {osl : Array (Option Value)} {f : Addr} {args : Args} {binds : List (Str × Value)}

/-- a call of a def of the text's, its ledger empty, all that stood its ground -/
theorem enter0 (B : Below A₀ base outer h₀) (F : Fr h₀ L s.heap m) (X₀ : K.In h₀) (T : Top p loose mean mg mb h₀) (hA : A.frames = some (env :: outer)) (hf : env.frame = some L) (hke : env.scope.kind = .function)
    (ho : K.lookup f = some ⟨oc, od, .func (fnOf name qual params body scope dV kV doc pm an cdv ct), osl⟩) (hcd : codeIn K cdv qual = true) (hroom : A.depth < recursionLimit)
    (hbind : BindsTo s (fnOf name qual params body scope dV kV doc pm an cdv ct) args binds) (hloc : ∀ y ∈ binds, scope.names.lookup y.1 = some .local)
    (h : ∀ L' h₁, Fr s.heap L' h₁ (fun y => binds.reverse.lookup y) → News s.heap L' h₁ [] → Below A base (env :: outer) s.heap → K.In s.heap → Top p loose mean mg mb s.heap → h₀.StaysIn s.heap →
      wpAny (model prog w) (A.deeper (envOf qual scope L' f cdv)) (execs body (envOf qual scope L' f cdv))
        (fun fl s' => R (.ok (.ret (match fl with | .ret v => v | _ => .none))) s')
        (fun e s' => wpAny (model prog w) (A.deeper (envOf qual scope L' f cdv)) (leaving (envOf qual scope L' f cdv) e) (fun _ s'' => R (.error e) s'') (fun e' s'' => R (.error e') s'') s')
        { s with heap := h₁, toks := s.toks + binds.length })
    (hco : scope.isCoroutine = false) (hgen : scope.isGenerator = false) (hk : scope.kind = .function)
    (hcell : ∀ x ∈ scope.names, x.2 ≠ .cell) : codeAny (model prog w) A (.call (.ref f) args) R s := by
  obtain ⟨FG, BG, st, _⟩ := groundX (R := R) (news := []) B F News.nil hA hf hke
  have XG := X₀.keeps st
  have TG := T.keeps st
  refine codeAny_call_def (fd := fnX name qual params body scope [] dV kV doc pm an cdv ct) (body := body) (binds := binds) hroom (XG _ _ ho) rfl TG.nolimit (codeRec_of XG hcd) rfl hbind hcell hloc (fun h₁ hns hk₁ => ?_) hco hgen hk
  exact h s.heap.objs.size h₁ ⟨hns, fun b o e => hk₁ b o e, Nat.le_refl _⟩ News.nil BG XG TG st
end


end Mine
namespace Mine
noncomputable def iv : Value → Option Int
  | .int i _ => some i
  | _ => none
/-- a dict's pairs whose values are ints -/
noncomputable def IntKvs (kvs : List (Str × Value)) (is : List (Str × Int)) : Prop := kvs.map (fun p => (p.1, iv p.2)) = is.map (fun p => (p.1, some p.2))
theorem iv_some {v : Value} {i : Int} (h : iv v = some i) : ∃ t, v = .int i t := by
  cases v <;> simp [iv] at h
  subst h; exact ⟨_, rfl⟩
theorem IntKvs.length {kvs : List (Str × Value)} {is : List (Str × Int)} (h : IntKvs kvs is) : kvs.length = is.length := by
  have := congrArg List.length h; simpa using this
theorem IntKvs.at {kvs : List (Str × Value)} {is : List (Str × Int)} (h : IntKvs kvs is) {i : Nat} {k : Str} {v : Value} (e : kvs[i]? = some (k, v)) : ∃ x t, is[i]? = some (k, x) ∧ v = .int x t := by
  have h1 : (kvs.map (fun p => (p.1, iv p.2)))[i]? = some (k, iv v) := by rw [List.getElem?_map, e]; rfl
  rw [h, List.getElem?_map] at h1
  cases q : is[i]? with
  | none => rw [q] at h1; cases h1
  | some p =>
    rw [q] at h1
    simp only [Option.map_some, Option.some.injEq, Prod.mk.injEq] at h1
    obtain ⟨t, ht⟩ := iv_some h1.2.symm
    exact ⟨p.2, t, by rw [← h1.1], ht⟩

section
variable {prog : Program} {w : World} {K : Type} [DecidableEq K] {knd : KeyKind prog w K} {A : Around} {E : Value → Shared → Prop} {s : Shared} {env : Env}
theorem Call_values {o : PySem.Expr} {apos pos : Pos} {d : Addr} {kvs : List (K × Value)} {Q : Value → Shared → Prop} (hdS : (d == sysModules) = false) (hm : s.heap.DictOf knd d kvs)
    (hbase : attributeBase o "values" env (eval o env) = eval o env) (hline : (apos.endLine == pos.line) = true)
    (ho : ∀ Q', Q' (.ref d) s → wpAny (model prog w) A (eval o env) Q' E s)
    (hQ : Q (.ref s.heap.objs.size) { s with heap := s.heap.push { cls := .type "dict_values", data := .fields #[.ref d] } }) :
    wpAny (model prog w) A (eval (.Call (.Attribute o "values" apos) [] [] pos) env) Q E s := by
  refine wpAny_Call_method (T := "dict") (id := "dict.values") hbase rfl hline PySem.F.plainAttrs_dict PySem.F.slot_dict_values PySem.F.type_dict_values (ho _ ⟨hm.typeIs, hm.mapOf.noDict, ?_⟩)
  show wpAny _ _ (callWith pos (.builtin "dict.values") [.ref d] [] []) Q E s
  exact method_meetsIn PySem.F.slot_dict_values PySem.F.entry_dict_values rfl (PySem.evalArgs_none ⟨rfl, hm.typeIs, PySem.F.args_dict_values_1 _, _, meets_dict_values knd d hdS, ⟨kvs, hm⟩, hQ⟩)
end
end Mine
namespace Mine
section
variable {prog : Program} {w : World} {K : Type} [DecidableEq K] {knd : KeyKind prog w K} {A : Around} {E : Value → Shared → Prop} {s : Shared} {env : Env} {h₀ : Heap}
theorem none_ge {h₀ h : Heap} {L a : Addr} {m : Str → Option Value} (F : Fr h₀ L h m) (ha : h.objs.size ≤ a) : h₀.get? a = none := by
  cases e : h₀.get? a with
  | none => rfl
  | some o => exact absurd (Heap.lt_size (F.keep _ _ e)) (Nat.not_lt.mpr ha)
theorem lt_of_get {h : Heap} {a : Addr} {o : Obj} (e : h.get? a = some o) : a < h.objs.size := Heap.lt_size e
theorem base_ne {h₀ h : Heap} {L a : Addr} {m : Str → Option Value} {o : Obj} (F : Fr h₀ L h m) (e : h₀.get? a = some o) : a ≠ L :=
  Nat.ne_of_lt (Nat.lt_of_lt_of_le (Heap.lt_size e) F.above)

/-- for x in d.values(): a turn changes locals alone -/
theorem For_values {x : Str} {px apos cpos pos : Pos} {o : PySem.Expr} {body : List Stmt} {d : Addr} {kvs : List (K × Value)} {m : Str → Option Value} {Q : Flow → Shared → Prop}
    (hh : A.handled = none) (hx : env.kindOf x = some .local) (hp : (env.scope.kind == .class || (env.scope.kind == .module && env.locals != env.globals)) = false)
    (F : Fr h₀ env.locals s.heap m) (lo : (d == sysModules) = false) (hd : h₀.DictOf knd d kvs)
    (hbase : attributeBase o "values" env (eval o env) = eval o env) (hline : (apos.endLine == cpos.line) = true)
    (ho : ∀ Q', Q' (.ref d) s → wpAny (model prog w) A (eval o env) Q' E s)
    (J : Nat → (Str → Option Value) → Prop) (h0 : J 0 m)
    (step : ∀ i k v m₁ s₁ own, kvs[i]? = some (k, v) → J i m₁ → Fr h₀ env.locals s₁.heap (fun y => if y = x then some v else m₁ y) → News h₀ env.locals s₁.heap (own ++ []) →
      wpAny (model prog w) A (execs body env) (LoopStep h₀ env.locals (own ++ []) (J (i + 1)) s₁) E s₁)
    (done : ∀ h' tk m', Fr h₀ env.locals h' m' → J kvs.length m' → Q .next { s with heap := h', toks := tk })
    (hE : PassesOwn (model prog w) A env E := by passes_own) :
    wpAny (model prog w) A (exec (.For (.Name x px) (.Call (.Attribute o "values" apos) [] [] cpos) body [] pos) env) Q E s := by
  refine For_inv h₀ hx hp ?_
  have hds := hd.keep F.keep
  refine Call_values lo hds hbase hline ho ?_
  obtain ⟨ep, hat⟩ := hds.dictAt
  refine wpAny_pyIter_values (knd := knd) (d := d) (kvs := kvs) (ep := ep) ⟨_, Heap.get?_push_size _ rfl, rfl, rfl⟩ (hat.push _) ?_
  obtain ⟨od, _, _, hod, _⟩ := id hd
  have hdl := lt_of_get (F.keep _ _ hod)
  have hLl := F.ns.lt
  have hdL := base_ne F hod
  refine ⟨_, _, _, kvs.length, _, _, _, [], J, rfl, Walks.dictValues hh _ d ?_ kvs ep, ?_, ?_, (fun p hp => nomatch hp), ⟨⟨_, Heap.get?_push_size _ rfl, rfl, rfl⟩, (hat.push _).push _⟩, (F.push _).push _, News.nil, h0, ?_, ?_⟩
  · show d ≠ (Heap.push _ _).objs.size
    rw [Heap.size_push]; exact Nat.ne_of_lt (Nat.lt_succ_of_lt hdl)
  · intro hm
    rcases List.mem_cons.mp hm with e | hm
    · have e' : env.locals = (Heap.push s.heap _).objs.size := e
      rw [Heap.size_push] at e'; exact absurd e' (Nat.ne_of_lt (Nat.lt_succ_of_lt hLl))
    · exact hdL (List.mem_singleton.mp hm).symm
  · intro b hb
    have e' : b = (Heap.push s.heap _).objs.size := List.mem_singleton.mp hb
    rw [Heap.size_push] at e'
    exact none_ge F (e' ▸ Nat.le_succ _)
  · intro i v m₁ s₁ own _ hP hJ F₁ N₁
    obtain ⟨k, hk⟩ := hP
    exact step i k v m₁ s₁ own hk hJ F₁ N₁
  · intro h' tk m' F' _ hJ
    exact done h' tk m' F' hJ
end
end Mine
namespace Mine
theorem sum_take_succ {is : List (Str × Int)} {i : Nat} {k : Str} {x : Int} (h : is[i]? = some (k, x)) : ((is.take (i + 1)).map (·.2)).sum = ((is.take i).map (·.2)).sum + x := by
  rw [List.take_add_one, h]; simp
end Mine
namespace Mine
section
variable {prog : Program} {w : World} {K : Type} [DecidableEq K] {knd : KeyKind prog w K} {A : Around} {E : Value → Shared → Prop} {s : Shared} {env : Env} {h₀ : Heap}

theorem entry_itemiter_iter : entryFor table "dict_itemiterator.__iter__" = some Builtin.«dict_keyiterator.__iter__» :=
  entryFor_alias (id' := "dict_keyiterator.__iter__") (by kernel_rfl) rfl (by decide +kernel) (by kernel_rfl)
theorem Items_self {I d : Addr} {i n ep : Nat} {ok ov : Value} {Q : Value → Shared → Prop} (hit : IsItemIter s.heap I d i n ep ok ov) (h : Q (.ref I) s) : wpAny (model prog w) A (pyIter (.ref I)) Q E s := by
  have hT : s.TypeIs (.ref I) "dict_itemiterator" := ⟨_, hit, rfl⟩
  refine wpAny_pyIter_slot hT PySem.F.slot_dict_itemiterator_iter (wpAny_call_entry PySem.F.slot_dict_itemiterator_iter hT entry_itemiter_iter ?_ (PySem.F.args_dict_itemiterator_iter_1 _))
  show wpAny _ _ (ret (.ref I)) _ _ s
  exact wpAny_pure ⟨_, rfl, "dict_itemiterator", _, hT, PySem.F.slot_dict_itemiterator_next.lookup, h⟩

theorem WalksT_items (hh : A.handled = none) (I d : Addr) (hne : d ≠ I) (kvs : List (K × Value)) (ep : Nat) :
    WalksT prog w A I [I, d] [I] kvs.length (fun i vals => ∃ k v key, kvs[i]? = some (k, v) ∧ knd.is k key = true ∧ vals = #[key, v])
      (fun i h => (∃ ok ov, IsItemIter h I d i kvs.length ep ok ov) ∧ h.DictAt knd d kvs ep)
      (fun i T h => (∃ ok ov, IsItemIterOut h I d (i + 1) kvs.length ep ok ov T) ∧ h.DictAt knd d kvs ep ∧ T ≠ I) where
  sub := fun b hb => by simp at hb; simp [hb]
  frame := fun _ _ _ st hk => ⟨let ⟨ok, ov, e⟩ := st.1; ⟨ok, ov, hk I (by simp) _ e⟩, st.2.at fun o e => hk d (by simp) o e⟩
  item := fun i s Q E hi st hQ => by
    obtain ⟨⟨ok, ov, hit⟩, hm⟩ := st
    obtain ⟨⟨k, x⟩, hx⟩ : ∃ p, kvs[i]? = some p := ⟨kvs[i], by simp [hi]⟩
    refine wpAny_pyNext_items_item hit hm hx fun key h' hkey ho ht hz hk => ?_
    refine hQ s.heap.objs.size #[key, x] h' s.toks ⟨k, x, key, hx, hkey, rfl⟩ (Nat.le_refl _) ⟨_, ht, rfl, _, rfl⟩
      ⟨⟨_, _, ho⟩, hm.at fun o e => hk d o hne e, Nat.ne_of_gt (Heap.lt_size hit)⟩ fun b o hb e => hk b o (fun q => hb (by simp [q])) e
  go := fun elts k pos i T s Q E hM hQ => by
    obtain ⟨⟨ok, ov, ho⟩, hm, hT⟩ := hM
    exact wpAny_letOwnedTupleGo_items ho fun h' hi hs => hQ h' ⟨⟨ok, ov, hi⟩, hm.extBut hs.extBut hne⟩ fun b o hb e => hs.extBut b o (fun q => hb (by simp [q])) e
  apart := fun i T h hM q => hM.2.2 (List.mem_singleton.mp q)
  done := fun s Q E st hQ => by
    obtain ⟨⟨ok, ov, hit⟩, hm⟩ := st
    exact wpAny_pyNext_items_end hh hit hm (by simp) fun h' he => hQ h' s.toks fun b o hb e => he b o (fun q => hb (by simp [q])) e
  self := fun i s Q E st hQ => by
    obtain ⟨⟨ok, ov, hit⟩, hm⟩ := st
    exact Items_self hit hQ
end
end Mine

namespace Mine
section
variable {prog : Program} {w : World} {K : Type} [DecidableEq K] {knd : KeyKind prog w K} {A : Around} {E : Value → Shared → Prop} {s : Shared} {env : Env} {h₀ : Heap}
theorem inv_to_3 {L : Addr} {Jn : (Str → Option Value) → List (Addr × Obj) → Prop} {own news₁ : List (Addr × Obj)} {adr : List Addr} {s₁ s₂ : Shared} {Q : Flow → Shared → Prop} {f : Flow}
    (ha : news₁.map (·.1) = adr) (h : InvPostN h₀ L Jn own adr s₁ Q f s₂) : LoopStep3 h₀ L own news₁ Jn s₁ (fun v s' => Q (.ret v) s') (fun s' => Q .next s') f s₂ := by
  have key : InvEndN h₀ L Jn own adr s₁ s₂ → LoopStep2 h₀ L own news₁ Jn s₁ .next s₂ := by
    intro hq0
    refine ex5 hq0 fun h' tk m' news' nx hq => ?_
    have e := hq.1
    have F := hq.2.1
    have N := hq.2.2.1
    have hn := hq.2.2.2.1
    have ho := hq.2.2.2.2.1
    have hx := hq.2.2.2.2.2.1
    have hj := hq.2.2.2.2.2.2
    clear hq hq0
    exact ⟨rfl, h', tk, m', nx, e, F, fun p hp => N p ((List.mem_append.mp hp).elim (ho p) (hn p)), hx.trans ha.symm, hj⟩
  cases f with
  | ret v => exact h
  | brk => exact h
  | next => exact key h
  | cont => exact key h

/-- for k, v in d.items(), d of the ground, with a ledger that a turn changes -/
theorem For_items {xk xv : Str} {pk pv pt apos cpos pos : Pos} {x1 : Nat} {o : PySem.Expr} {body : List Stmt} {d : Addr} {kvs : List (K × Value)} {m : Str → Option Value} {news : List (Addr × Obj)} {Q : Flow → Shared → Prop}
    (hh : A.handled = none) (hxk : env.kindOf xk = some .local) (hxv : env.kindOf xv = some .local) (hp : (env.scope.kind == .class || (env.scope.kind == .module && env.locals != env.globals)) = false)
    (F : Fr h₀ env.locals s.heap m) (N : News h₀ env.locals s.heap news) (lo : (d == sysModules) = false) (hd : h₀.DictOf knd d kvs)
    (hbase : attributeBase o "items" env (eval o env) = eval o env) (hline : (apos.endLine == cpos.line) = true)
    (ho : ∀ Q', Q' (.ref d) s → wpAny (model prog w) A (eval o env) Q' E s)
    (J : Nat → (Str → Option Value) → List (Addr × Obj) → Prop) (h0 : J 0 m news)
    (step : ∀ i k v key m₁ news₁ h tk own, kvs[i]? = some (k, v) → knd.is k key = true → news₁.map (·.1) = news.map (·.1) → OwnOff own (news.map (·.1)) → J i m₁ news₁ →
      Fr h₀ env.locals h (fun y => if y = xv then some v else if y = xk then some key else m₁ y) → News h₀ env.locals h (news₁ ++ own) →
      wpAny (model prog w) A (execs body env) (InvPostN h₀ env.locals (J (i + 1)) own (news.map (·.1)) { s with heap := h, toks := tk } Q) E { s with heap := h, toks := tk })
    (done : ∀ h' tk m' news', Fr h₀ env.locals h' m' → News h₀ env.locals h' news' → news'.map (·.1) = news.map (·.1) → J kvs.length m' news' → Q .next { s with heap := h', toks := tk })
    (hE : PassesOwn (model prog w) A env E := by passes_own) :
    wpAny (model prog w) A (exec (.For (.Tuple [.Name xk pk, .Name xv pv] x1 pt) (.Call (.Attribute o "items" apos) [] [] cpos) body [] pos) env) Q E s := by
  refine For_pair3 h₀ hh hxk hxv hp ?_ (by intro _; rfl)
  have hds := hd.keep F.keep
  refine wpAny_Call_items lo hds hbase hline ho ?_
  obtain ⟨ep, hat⟩ := hds.dictAt
  refine wpAny_pyIter_items (knd := knd) (d := d) (kvs := kvs) (ep := ep) ⟨_, Heap.get?_push_size _ rfl, rfl, rfl⟩ (hat.push _) ?_
  obtain ⟨od, _, _, hod, _⟩ := id hd
  have hdl := lt_of_get (F.keep _ _ hod)
  have hLl := F.ns.lt
  have hdL := base_ne F hod
  have hI : ∀ b, b < s.heap.objs.size → b ≠ (Heap.push s.heap { cls := .type "dict_items", data := .fields #[.ref d] }).objs.size := fun b hb => by
    rw [Heap.size_push]; exact Nat.ne_of_lt (Nat.lt_succ_of_lt hb)
  refine ⟨_, _, _, kvs.length, _, _, _, (fun i v0 v1 => ∃ k, kvs[i]? = some (k, v1) ∧ knd.is k v0 = true), m, news, J, rfl, WalksT_items hh _ d (hI d hdl) kvs ep, ?_, ?_, ?_, ?_,
    ⟨⟨_, _, Heap.get?_push_size _ rfl⟩, (hat.push _).push _⟩, (F.push _).push _, ?_, h0, ?_, ?_⟩
  · rintro i vals ⟨k, v, key, hx, hk, rfl⟩
    exact ⟨key, v, rfl, k, hx, hk⟩
  · intro hm
    rcases List.mem_cons.mp hm with e | hm
    · exact hI _ hLl e
    · exact hdL (List.mem_singleton.mp hm).symm
  · intro b hb
    have e' : b = (Heap.push s.heap _).objs.size := List.mem_singleton.mp hb
    rw [Heap.size_push] at e'
    exact none_ge F (e' ▸ Nat.le_succ _)
  · intro p hp hm
    exact hI p.1 (lt_of_get (N p hp).1) (List.mem_singleton.mp hm)
  · intro p hp
    exact ⟨Heap.get?_push_of_some _ (Heap.get?_push_of_some _ (N p hp).1), (N p hp).2⟩
  · rintro i v0 v1 m₁ news₁ s₁ own ⟨h, tk, rfl⟩ hi ⟨k, hx, hk⟩ hJ ha hown F₁ N₁
    refine wpAny_mono (step i k v1 v0 m₁ news₁ h tk own hx hk ha (fun p hp b hb e => ?_) hJ F₁ fun p hp => N₁ p ((List.mem_append.mp hp).elim (fun q => List.mem_append.mpr (.inr q)) fun q => List.mem_append.mpr (.inl q)))
      (fun f s₂ q => inv_to_3 ha q) fun _ _ e => e
    obtain ⟨q, hq, rfl⟩ := List.mem_map.mp hb
    rcases List.mem_cons.mp (hown p hp) with e1 | e1
    · exact hI q.1 (lt_of_get (N q hq).1) (e.symm.trans e1)
    · have := (N q hq).2.2
      rw [← e, List.mem_singleton.mp e1, hod] at this
      cases this
  · exact fun h' tk m' news' F' N' ha hJ => done h' tk m' news' F' N' ha hJ
end
end Mine
namespace Mine
/-- a turn's end: the iterator as it stood, the ledger anew -/
noncomputable def TurnP (h₀ : Heap) (L I : Addr) (oI : Obj) (Jn : (Str → Option Value) → List (Addr × Obj) → Prop) (s₁ : Shared) (Q : Flow → Shared → Prop) (f : Flow) (s₂ : Shared) : Prop :=
  match f with
  | .ret v => Q (.ret v) s₂
  | .brk => Q .next s₂
  | _ => ∃ h' tk m' news', s₂ = { s₁ with heap := h', toks := tk } ∧ Fr h₀ L h' m' ∧ News h₀ L h' ((I, oI) :: news') ∧ (∀ p ∈ news', p.1 ≠ I) ∧ Jn m' news'
theorem TurnP.intro {h₀ h' : Heap} {L I : Addr} {oI : Obj} {Jn : (Str → Option Value) → List (Addr × Obj) → Prop} {s₁ : Shared} {Q : Flow → Shared → Prop} {tk : Nat} {m' : Str → Option Value} {news' : List (Addr × Obj)}
    (F : Fr h₀ L h' m') (N : News h₀ L h' ((I, oI) :: news')) (off : ∀ p ∈ news', p.1 ≠ I) (hj : Jn m' news') : TurnP h₀ L I oI Jn s₁ Q .next { s₁ with heap := h', toks := tk } := ⟨h', tk, m', news', rfl, F, N, off, hj⟩

section
variable {prog : Program} {w : World} {K : Type} [DecidableEq K] {knd : KeyKind prog w K} {A : Around} {E : Value → Shared → Prop} {s : Shared} {env : Env} {h₀ : Heap}
theorem method_base {name : Str} {id : String} {pl : Sem Bool} {d : Addr} {kvs : List (K × Value)} {Q : Value × List Value → Shared → Prop} (slot : Slot "dict" name id) (hty : typeOf (.builtin id) = pure (.type "method_descriptor"))
    (hd : s.heap.DictOf knd d kvs) (h : Q (.builtin id, [.ref d]) s) : wpAny (model prog w) A (getMethod (.ref d) name pl) Q E s :=
  getMethod_builtin hd.typeIs PySem.F.plainAttrs_dict slot hty hd.mapOf.noDict h
theorem call_get2_base {d : Addr} {kvs : List (K × Value)} {k : K} {key dflt : Value} {Q : Value → Shared → Prop} (lo : (d == sysModules) = false) (hd : s.heap.DictOf knd d kvs) (hkey : knd.is k key = true)
    (h : Q ((valueAt kvs k).getD dflt) { s with toks := s.toks + 1 }) : wpAny (model prog w) A (call (.builtin "dict.get") [.ref d, key, dflt]) Q E s :=
  call_meetsIn PySem.F.slot_dict_get hd.typeIs PySem.F.entry_dict_get (PySem.F.args_dict_get_3 _ _ _) (meets_dict_get_default knd d hkey lo dflt) ⟨valueAt kvs, hd.mapOf, h⟩

/-- for x in a list of the ground: the ledger may turn as it likes -/
theorem For_listJ {x : Str} {px pos : Pos} {iter : PySem.Expr} {body : List Stmt} {l : Addr} {vs : List Value} {m : Str → Option Value} {news : List (Addr × Obj)} {Q : Flow → Shared → Prop}
    (hh : A.handled = none) (hx : env.kindOf x = some .local) (hp : (env.scope.kind == .class || (env.scope.kind == .module && env.locals != env.globals)) = false)
    (F : Fr h₀ env.locals s.heap m) (N : News h₀ env.locals s.heap news) (hl : h₀.IsList l vs.toArray)
    (ho : ∀ Q' : Value → Shared → Prop, Q' (.ref l) s → wpAny (model prog w) A (eval iter env) Q' E s)
    (hs : ∀ x, foldedSetIterable iter env x = pure x)
    (J : Nat → (Str → Option Value) → List (Addr × Obj) → Prop) (h0 : J 0 m news)
    (step : ∀ i v m₁ news₁ h tk I oI, vs[i]? = some v → J i m₁ news₁ → (∀ p ∈ news₁, p.1 ≠ I) → Fr h₀ env.locals h (fun y => if y = x then some v else m₁ y) → News h₀ env.locals h ((I, oI) :: news₁) →
      wpAny (model prog w) A (execs body env) (TurnP h₀ env.locals I oI (J (i + 1)) { s with heap := h, toks := tk } Q) E { s with heap := h, toks := tk })
    (done : ∀ h' tk m' news', Fr h₀ env.locals h' m' → News h₀ env.locals h' news' → J vs.length m' news' → Q .next { s with heap := h', toks := tk })
    (hE : PassesOwn (model prog w) A env E := by passes_own) :
    wpAny (model prog w) A (exec (.For (.Name x px) iter body [] pos) env) Q E s := by
  refine For_invV h₀ hx hp (ho _ ?_) hs
  obtain ⟨ol, hol, _⟩ := id hl
  have hls : s.heap.IsList l vs.toArray := hl.at fun o e => F.keep l o e
  have hll := lt_of_get (F.keep _ _ hol)
  have hLl := F.ns.lt
  refine wpAny_pyIter_list hls ?_
  have hne : l ≠ s.heap.objs.size := Nat.ne_of_lt hll
  have W := Walks.list (prog := prog) (w := w) hh s.heap.objs.size l hne vs.toArray
  rw [List.size_toArray] at W
  refine ⟨s.heap.objs.size, _, _, vs.length, _, _, m, news, J, rfl, W, ?_, ?_, ?_,
    ⟨⟨_, Heap.get?_push_size _ rfl, rfl, rfl⟩, hls.at fun o e => Heap.get?_push_of_some _ e⟩, F.push _, ?_, h0, ?_, ?_⟩
  · intro hm
    rcases List.mem_cons.mp hm with e | hm
    · exact absurd e (Nat.ne_of_lt hLl)
    · exact base_ne F hol (List.mem_singleton.mp hm).symm
  · intro b hb
    exact none_ge F (Nat.le_of_eq (List.mem_singleton.mp hb).symm)
  · intro p hp hm
    exact absurd (List.mem_singleton.mp hm) (Nat.ne_of_lt (lt_of_get (N p hp).1))
  · intro p hp
    exact ⟨Heap.get?_push_of_some _ (N p hp).1, (N p hp).2⟩
  · rintro i v m₁ news₁ s₁ own ⟨h, tk, rfl⟩ hi hP hJ hoff hown _ hin hst F₁ N₁
    obtain ⟨⟨oI, hoI, _⟩, _⟩ := hst
    have hI0 : h₀.get? s.heap.objs.size = none := none_ge F (Nat.le_refl _)
    have hmem : (s.heap.objs.size, oI) ∈ own := hin _ (by simp) hI0 _ hoI
    have hall : ∀ p ∈ own, p = (s.heap.objs.size, oI) := fun p hp => by
      have hN := N₁ p (List.mem_append_left _ hp)
      rcases List.mem_cons.mp (hown p hp) with e | e
      · obtain ⟨a, o⟩ := p
        have e' : a = s.heap.objs.size := e
        subst e'
        have h1 : h.get? s.heap.objs.size = some o := hN.1
        have h2 : h.get? s.heap.objs.size = some oI := hoI
        rw [h2] at h1; rw [Option.some.inj h1]
      · have := hN.2.2
        rw [List.mem_singleton.mp e, hol] at this; cases this
    refine wpAny_mono (step i v m₁ news₁ h tk s.heap.objs.size oI (by simpa using hP) hJ (fun p hp q => hoff p hp (by simp [q])) F₁ fun p hp => ?_) (fun f s₂ q => ?_) fun _ _ e => e
    · rcases List.mem_cons.mp hp with rfl | hp
      · exact N₁ _ (List.mem_append_left _ hmem)
      · exact N₁ _ (List.mem_append_right _ hp)
    · have key : (∃ h' tk' m' news', s₂ = { ({ s with heap := h, toks := tk } : Shared) with heap := h', toks := tk' } ∧ Fr h₀ env.locals h' m' ∧ News h₀ env.locals h' ((s.heap.objs.size, oI) :: news') ∧ (∀ p ∈ news', p.1 ≠ s.heap.objs.size) ∧ J (i + 1) m' news') →
          LoopStepU h₀ env.locals [s.heap.objs.size] own (J (i + 1)) { s with heap := h, toks := tk } .next s₂ := by
        intro hq0
        refine ex4 hq0 fun h' tk' m' news' hq => ?_
        have e := hq.1
        have F' := hq.2.1
        have N' := hq.2.2.1
        have off := hq.2.2.2.1
        have hj := hq.2.2.2.2
        clear hq hq0
        refine ⟨rfl, h', tk', m', news', e, F', fun p hp => ?_, fun p hp q => off p hp (List.mem_singleton.mp q), hj⟩
        rcases List.mem_append.mp hp with hp | hp
        · rw [hall p hp]; exact N' _ (.head _)
        · exact N' _ (.tail _ hp)
      cases f with
      | ret v => exact .ret q
      | brk => exact .brk q
      | next => exact .next (key q)
      | cont => exact .cont (key q)
  · exact fun h' tk m' news' F' N' _ hJ => done h' tk m' news' F' N' hJ
end
end Mine
namespace Mine
theorem news_add {h₀ h h' : Heap} {L d : Addr} {m : Str → Option Value} {news : List (Addr × Obj)} {o : Obj} (F : Fr h₀ L h m) (N : News h₀ L h news) (up : ∀ b o, h.get? b = some o → h'.get? b = some o) (hd : h.get? d = none) (ho : h'.get? d = some o) :
    Fr h₀ L h' m ∧ News h₀ L h' ((d, o) :: news) := by
  obtain ⟨oL, es, ep, hL, r⟩ := F.ns
  refine ⟨⟨⟨oL, es, ep, up _ _ hL, r⟩, fun b x e => up _ _ (F.keep b x e), F.above⟩, fun p hp => ?_⟩
  rcases List.mem_cons.mp hp with rfl | hp
  · refine ⟨ho, fun e => ?_, ?_⟩
    · rw [show d = L from e, hL] at hd; cases hd
    · cases q : h₀.get? d with
      | none => rfl
      | some x => rw [F.keep _ _ q] at hd; cases hd
  · exact ⟨up _ _ (N p hp).1, (N p hp).2⟩
end Mine
namespace Mine
section
variable {prog : Program} {w : World} {A : Around} {E : Value → Shared → Prop} {s : Shared} {h₀ : Heap} {L l : Addr} {m : Str → Option Value}
theorem item_base {value slice : PySem.Expr} {vs : List Value} {k : Int} {u : Tok} {v : Value} {Q : Value → Shared → Prop} (F : Fr h₀ L s.heap m)
    (hl : h₀.IsList l vs.toArray) (h0 : 0 ≤ k) (hhi : k < 2 ^ 63) (hx : vs[k.toNat]? = some v) (h : Q v s)
    (hs : subscripted slice false (.ref l) (.int k u) = operate [.ref l, .int k u] (getItem (.ref l) (.int k u)) := by with_unfolding_all rfl) :
    wpAny (model prog w) A (subscriptTail value slice (.ref l) (.int k u)) Q E s := by
  have hl' : s.heap.IsList l vs.toArray := hl.at fun o e => F.keep l o e
  exact tail_any hl'.typeIs slot_list_getitem.lookup (wpAny_getItem_list hl' h0 hhi (by simpa using hx) h) hs
theorem item_baseA {value slice : PySem.Expr} {vs : List Value} {k : Int} {u : Tok} {v : Value} {Q : Value → Shared → Prop} (F : Fr h₀ L s.heap m := by k_asm)
    (hl : h₀.IsList l vs.toArray := by assumption) (h0 : 0 ≤ k := by first | omega | decide) (hhi : k < 2 ^ 63 := by first | omega | decide) (hx : vs[k.toNat]? = some v := by first | assumption | rfl) (h : Q v s)
    (hs : subscripted slice false (.ref l) (.int k u) = operate [.ref l, .int k u] (getItem (.ref l) (.int k u)) := by with_unfolding_all rfl) :
    wpAny (model prog w) A (subscriptTail value slice (.ref l) (.int k u)) Q E s := item_base F hl h0 hhi hx h hs
theorem method_getA {pl : Sem Bool} {d : Addr} {kvs : List (Str × Value)} {Q : Value × List Value → Shared → Prop} (hd : h₀.DictOf (strKind prog w) d kvs := by assumption) (F : Fr h₀ L s.heap m := by k_asm) (h : Q (.builtin "dict.get", [.ref d]) s) :
    wpAny (model prog w) A (getMethod (.ref d) (Str.ofString "get") pl) Q E s := method_base (knd := strKind _ _) PySem.F.slot_dict_get PySem.F.type_dict_get (hd.keep F.keep) h
end
end Mine
namespace Mine
section
variable {prog : Program} {w : World} {A₀ A : Around} {s : Shared} {base h₀ : Heap} {outer : List Env} {L : Addr} {m mg mb : Str → Option Value} {K : Frag} {p : Program} {loose : List Str} {mean : ExcName → Option Value}
  {env : Env} {R : Result → Shared → Prop} {name qual : Str} {params : Arguments} {body : List Stmt} {scope : Scope} {dV kV doc pm cdv ct oc : Value} {an od : Option Addr} {osl : Array (Option Value)} {f : Addr} {args : Args} {binds : List (Str × Value)}
/-- the same where the def's names are captured -/
theorem enter0C (B : Below A₀ base outer h₀) (F : Fr h₀ L s.heap m) (X₀ : K.In h₀) (T : Top p loose mean mg mb h₀) (hA : A.frames = some (env :: outer)) (hf : env.frame = some L) (hke : env.scope.kind = .function)
    (ho : K.lookup f = some ⟨oc, od, .func (fnOf name qual params body scope dV kV doc pm an cdv ct), osl⟩) (hcd : codeIn K cdv qual = true) (hroom : A.depth < recursionLimit)
    (hbind : BindsTo s (fnOf name qual params body scope dV kV doc pm an cdv ct) args binds) (hkind : (binds.all fun y => scope.names.lookup y.1 == some .local || scope.names.lookup y.1 == some .cell) = true)
    (hnd : ((cellsFrom 0 scope.names []).map (·.1)).Nodup)
    (h : ∀ L' h₁ tk cells, Fr s.heap L' h₁ (bindL (envOfC qual scope L' f cdv).kindOf binds fun _ => none) → News s.heap L' h₁ cells →
      CellsAre (bindC (envOfC qual scope L' f cdv).kindOf binds fun _ => none) (cellsFrom (L' + 1) scope.names []) cells → Below A base (env :: outer) s.heap → K.In s.heap → Top p loose mean mg mb s.heap → h₀.StaysIn s.heap →
      wpAny (model prog w) (A.deeper (envOfC qual scope L' f cdv)) (execs body (envOfC qual scope L' f cdv))
        (fun fl s' => R (.ok (.ret (match fl with | .ret v => v | _ => .none))) s')
        (fun e s' => wpAny (model prog w) (A.deeper (envOfC qual scope L' f cdv)) (leaving (envOfC qual scope L' f cdv) e) (fun _ s'' => R (.error e) s'') (fun e' s'' => R (.error e') s'') s')
        { s with heap := h₁, toks := tk })
    (hco : scope.isCoroutine = false) (hgen : scope.isGenerator = false) (hk : scope.kind = .function) : codeAny (model prog w) A (.call (.ref f) args) R s := by
  obtain ⟨_, BG, st, _⟩ := groundX (R := R) (news := []) B F News.nil hA hf hke
  have XG := X₀.keeps st
  have TG := T.keeps st
  have hlim : s.heap.NoLimit := TG.nolimit
  refine codeAny_call_function hroom (XG _ _ ho) rfl hco hgen rfl (codeRec_of XG hcd) (hbind _ _ _ _ ?_)
  refine wpAny_newFunctionEnv_cells hk (kindsX hkind _) fun env' he s' x => ?_
  subst he
  have keep := x.toInCall.keep
  refine ⟨hlim.keeps keep, codeAny_func ?_⟩
  obtain ⟨h₁, tk, rfl, _⟩ := x.done
  have hns := x.toInCall.ns
  obtain ⟨cells, NC, Y⟩ := Cl.news (h₀ := s.heap) (Nat.le_refl _) fun n c hm => ⟨x.cell n c (lookup_of_mem_nodup (cellsFrom_names scope.names 0 (s.heap.objs.size + 1) [] [] rfl ▸ hnd) hm), x.above n c hm⟩
  exact h s.heap.objs.size h₁ tk cells ⟨hns, keep, Nat.le_refl _⟩ NC Y BG XG TG st
end
end Mine
namespace Mine
/-- a turn's end where no turn leaves the loop -/
noncomputable def TurnE (h₀ : Heap) (L I : Addr) (oI : Obj) (Jn : (Str → Option Value) → List (Addr × Obj) → Prop) (s₁ : Shared) (f : Flow) (s₂ : Shared) : Prop :=
  f = .next ∧ ∃ h' tk m' news', s₂ = { s₁ with heap := h', toks := tk } ∧ Fr h₀ L h' m' ∧ News h₀ L h' ((I, oI) :: news') ∧ (∀ p ∈ news', p.1 ≠ I) ∧ Jn m' news'
theorem TurnE.intro {h₀ h' : Heap} {L I : Addr} {oI : Obj} {Jn : (Str → Option Value) → List (Addr × Obj) → Prop} {s₁ : Shared} {tk : Nat} {m' : Str → Option Value} {news' big : List (Addr × Obj)}
    (F : Fr h₀ L h' m') (N : News h₀ L h' big) (sub : ∀ p ∈ (I, oI) :: news', p ∈ big) (off : ∀ p ∈ news', p.1 ≠ I) (hj : Jn m' news') : TurnE h₀ L I oI Jn s₁ .next { s₁ with heap := h', toks := tk } :=
  ⟨rfl, h', tk, m', news', rfl, F, fun p hp => N p (sub p hp), off, hj⟩
section
variable {prog : Program} {w : World} {A : Around} {E : Value → Shared → Prop} {s : Shared} {env : Env} {h₀ : Heap} {target : PySem.Expr} {body : List Stmt} {Q : Flow → Shared → Prop}
theorem letGo_rangeiter {I : Addr} {x left step : Int} {v : Value} {Q : Unit → Shared → Prop} (hi : IsRangeIter s.heap I x left step) (h : Q () s) : wpAny (model prog w) A (letOwnedTupleGo target (.ref I) v) Q E s := by
  unfold letOwnedTupleGo
  cases target <;> first | exact wpAny_pure h | (cases v <;> first | exact wpAny_pure h | (refine wpAny_bind (wpAny_load hi ?_); exact wpAny_pure h))
theorem iter_rangeT {r : Addr} {a₀ b₀ : Int} {t₀ u₀ v₀ : Tok} {n : Nat} {m₀ : Str → Option Value} {news : List (Addr × Obj)}
    (hh : A.handled = none) (hr : IsRange s.heap r a₀ b₀ 1 t₀ u₀ v₀) (hsmall : Builtin.Range.small a₀ b₀ 1 = true) (hn : Builtin.Range.rangeSize a₀ b₀ 1 = (n : Int)) (F : Fr h₀ env.locals s.heap m₀) (N : News h₀ env.locals s.heap news)
    (J : Nat → (Str → Option Value) → List (Addr × Obj) → Prop) (h0 : J 0 m₀ news)
    (step : ∀ i tv m₁ news₁ s₁ I oI, i < n → J i m₁ news₁ → (∀ p ∈ news₁, p.1 ≠ I) → Fr h₀ env.locals s₁.heap m₁ → News h₀ env.locals s₁.heap ((I, oI) :: news₁) →
      wpAny (model prog w) A (assign target env (.int (a₀ + (i : Int)) tv)) (fun _ s₃ => wpAny (model prog w) A (execs body env) (TurnE h₀ env.locals I oI (J (i + 1)) s₁) E s₃) E s₁)
    (done : ∀ h' tk m' news', Fr h₀ env.locals h' m' → News h₀ env.locals h' news' → J n m' news' → Q .next { s with heap := h', toks := tk }) :
    wpAny (model prog w) A (pyIter (.ref r)) (fun it s₂ => LoopAtT prog w A h₀ env target body Q E it s₂) E s := by
  refine wpAny_pyIter_range hr hsmall ?_
  have W := LCg.range_walks (prog := prog) (w := w) (I := s.heap.objs.size) hh a₀ n
  have hI0 : h₀.get? s.heap.objs.size = none := none_ge F (Nat.le_refl _)
  refine ⟨s.heap.objs.size, _, _, n, _, _, m₀, news, J, rfl, W, ?_, ?_, ?_, (by show IsRangeIter _ _ _ _ _; rw [hn]; simpa using Heap.get?_push_size _ rfl), F.push _, (fun p hp => ⟨Heap.get?_push_of_some _ (N p hp).1, (N p hp).2⟩), ?_, h0, ?_, ?_⟩
  · intro hm
    exact absurd F.ns.lt ((List.mem_singleton.mp hm) ▸ Nat.lt_irrefl _)
  · intro b hb
    rw [List.mem_singleton.mp hb]; exact hI0
  · intro p hp hm
    exact absurd (List.mem_singleton.mp hm) (Nat.ne_of_lt (lt_of_get (N p hp).1))
  · intro i s' v Q' st hq
    exact letGo_rangeiter st hq
  · rintro i v m₁ news₁ s₁ own hi ⟨t, rfl⟩ hJ hoff hown hget hin hst F₁ N₁
    obtain ⟨oI, hoI⟩ : ∃ o, s₁.heap.get? s.heap.objs.size = some o := ⟨_, hst⟩
    have hmem : (s.heap.objs.size, oI) ∈ own := hin _ (by simp) hI0 _ hoI
    have hall : ∀ p ∈ own, p = (s.heap.objs.size, oI) := fun p hp => by
      have e := List.mem_singleton.mp (hown p hp)
      have h1 := hget p hp
      obtain ⟨a, o⟩ := p
      have e' : a = s.heap.objs.size := e
      subst e'
      have h1 : s₁.heap.get? s.heap.objs.size = some o := h1
      rw [hoI] at h1; rw [Option.some.inj h1]
    refine wpAny_mono (step i t m₁ news₁ s₁ s.heap.objs.size oI hi hJ (fun p hp q => hoff p hp (by simp [q])) F₁ fun p hp => ?_) (fun _ s₃ q => wpAny_mono q (fun f s₂ q => ?_) fun _ _ e => e) fun _ _ e => e
    · rcases List.mem_cons.mp hp with rfl | hp
      · exact N₁ _ (List.mem_append_left _ hmem)
      · exact N₁ _ (List.mem_append_right _ hp)
    · have qa0 := q.1
      refine ex4 q.2 fun h' tk' m' news' hq => ?_
      have e := hq.1
      have F' := hq.2.1
      have N' := hq.2.2.1
      have off := hq.2.2.2.1
      have hj := hq.2.2.2.2
      clear hq q
      subst qa0
      refine ⟨rfl, h', tk', m', news', e, F', fun p hp => ?_, fun p hp q => off p hp (List.mem_singleton.mp q), hj⟩
      rcases List.mem_append.mp hp with hp | hp
      · rw [hall p hp]; exact N' _ (.head _)
      · exact N' _ (.tail _ hp)
  · exact fun h' tk m' news' F' N' _ hJ => done h' tk m' news' F' N' hJ
end
end Mine
namespace Mine
theorem if_else {m : Str → Option Value} {x y : Str} {u v : Option Value} (h : m y = v) (e : ¬ y = x) : (fun z => if z = x then u else m z) y = v := by
  show (if y = x then u else m y) = v
  rw [if_neg e]; exact h
section
variable {M : Model} {A : Around} {E : Value → Shared → Prop} {s : Shared} {h₀ : Heap} {L a : Addr} {m : Str → Option Value} {cn : Str} {cs : Scope} {ccd : Value} {cl : List (Str × Addr)} {x : Str} {pos : Pos} {v : Value} {Q : Value → Shared → Prop}
theorem nameX_LA (F : Fr h₀ L s.heap m := by k_asm) (hv : m x = some v := by first | assumption | exact if_else (by assumption) (by decide) | exact if_else (if_else (by assumption) (by decide)) (by decide) | exact if_else (if_else (if_else (by assumption) (by decide)) (by decide)) (by decide) | exact if_else (if_else (if_else (if_else (by assumption) (by decide)) (by decide)) (by decide)) (by decide) | exact if_else (if_else (if_else (if_else (if_else (by assumption) (by decide)) (by decide)) (by decide)) (by decide)) (by decide) | exact if_else (if_else (if_else (if_else (if_else (if_else (by assumption) (by decide)) (by decide)) (by decide)) (by decide)) (by decide)) (by decide)) (h : Q v s)
    (hk : cs.kind = .function := by rfl) (hx : (envX cn cs L a ccd cl).kindOf x = some .local := by rfl) (hd : (x == ("__debug__" : Str)) = false := by decide) : wpAny M A (eval (.Name x pos) (envX cn cs L a ccd cl)) Q E s := nameX_L F hv h hk hx hd
end
end Mine
namespace Mine
theorem news_cons {h₀ h : Heap} {L : Addr} {src dst : List (Addr × Obj)} {p : Addr × Obj} (N : News h₀ L h src) (hp : p ∈ src) (r : News h₀ L h dst) : News h₀ L h (p :: dst) := fun q hq => by
  rcases List.mem_cons.mp hq with rfl | hq
  · exact N _ hp
  · exact r q hq
theorem news_drop {h₀ h : Heap} {L : Addr} {src : List (Addr × Obj)} (k : Nat) (N : News h₀ L h src) : News h₀ L h (src.drop k) := fun q hq => N q (List.mem_of_mem_drop hq)
theorem mem_at {α : Type} {l : List α} {x : α} (k : Nat) (h : l[k]? = some x) : x ∈ l := List.mem_of_getElem? h
theorem off_cons {x : Addr} {p : Addr × Obj} {l : List (Addr × Obj)} (h : p.1 ≠ x) (r : ∀ q ∈ l, q.1 ≠ x) : ∀ q ∈ p :: l, q.1 ≠ x := fun q hq => by
  rcases List.mem_cons.mp hq with rfl | hq
  · exact h
  · exact r q hq
theorem all_cons {P : Addr × Obj → Prop} {p : Addr × Obj} {l : List (Addr × Obj)} (h : P p) (r : ∀ q ∈ l, P q) : ∀ q ∈ p :: l, P q := fun q hq => by
  rcases List.mem_cons.mp hq with rfl | hq
  · exact h
  · exact r q hq
theorem ne_symm' {a b : Addr} (h : @Ne Nat a b) : @Ne Nat b a := Ne.symm h
theorem mem_swap {α : Type} {a b : α} {l : List α} : ∀ p ∈ a :: b :: l, p ∈ b :: a :: l := fun p hp => by
  rcases List.mem_cons.mp hp with rfl | hp
  · exact .tail _ (.head _)
  · rcases List.mem_cons.mp hp with rfl | hp
    · exact .head _
    · exact .tail _ (.tail _ hp)
end Mine

/-! Count -/
namespace Mine
local macro_rules | `(tactic| walk_at $s:str) => kP s [("exec For Name Call cons nil", kH)]
theorem c_count : ∀ (w : World) (loose : List Str) (mean : ExcName → Option Value) (mg mb : Str → Option Value) (dp un : Nat) (gd : Option (List Code)) (cn : Str) (cs : Scope) (a : Addr) (ccd : Value) (cl : List (Str × Addr)) (outer : List Env) (A₀ : Around) (base h₀ : Heap) (L : Addr) (m : Str → Option Value) (s : Shared) (Q E : Value → Shared → Prop) (d : Addr) (kvs : List (Str × Value)) (is : List (Str × Int)),
    Site w (hd.heap_39 w.params) loose mean mg mb dp un cs outer A₀ base h₀ L m 10 s → (d == sysModules) = false → s.heap.DictOf (strKind PySem.Challenge.rw_zo0006_01.row.prog w) d kvs → IntKvs kvs is →
    (∀ (h' : Heap) (tk' : Nat) (t : Tok), (∀ b o, s.heap.get? b = some o → h'.get? b = some o) → Q (.int (is.map (·.2)).sum t) { s with heap := h', toks := tk' }) →
      wpAny (model PySem.Challenge.rw_zo0006_01.row.prog w) (ktrTop dp un gd cn cs L a ccd cl outer) (call (.ref 50) [.ref d]) Q E s := by
  k_fill
  w_top off
  intro w loose mean mg mb dp un gd cn cs a ccd cl outer A₀ base h₀ L m s Q E d kvs is S lo hd hi hret
  obtain ⟨hB, hF, hK, hT, hk, hdp, hun⟩ := S
  refine wpAny_call (enter0 (binds := [("callers", .ref d)]) hB hF hK hT rfl rfl hk (by k_is) (by k_is) (by ktr_room) (BindsTo.of_eq rfl) (locs rfl) ?_ rfl rfl rfl (by decide))
  intro L' h₁ F1 N1 B1 X1 T1 st1
  dsimp only
  k_fold
  k_steps
  rename Fr s.heap _ _ _ => F2
  unfold Hold
  refine For_values rfl (by rfl) (by rfl) F2 lo hd (by with_unfolding_all rfl) (by rfl) (fun Q' hq => ld F2 (by rfl) hq)
    (fun i m => Hold (∃ (t : Tok) (u : Option Value), m = fun (z : Str) => if z = ("calls" : Str) then u else if z = ("nc" : Str) then some (Value.int ((is.take i).map (·.2)).sum t) else ([("callers", Value.ref d)] : List (Str × Value)).lookup z)) ?_ ?_ ?_
  · refine ⟨tk, none, funext fun z => ?_⟩
    by_cases h1 : z = ("calls" : Str)
    · subst h1; rfl
    · rw [if_neg h1]; rfl
  · intro i k v m₁ s₁ own hk hJ F3 N3
    obtain ⟨x, t, e1, rfl⟩ := hi.at hk
    refine ex2 hJ fun t1 u hq => ?_
    have qb0 := hq
    clear hq hJ
    subst qb0
    k_steps
    refine ⟨s₁.toks, some (.int x t), funext fun z => ?_⟩
    rw [sum_take_succ e1]
    by_cases h1 : z = ("calls" : Str)
    · subst h1; rfl
    · by_cases h2 : z = ("nc" : Str)
      · subst h2; rfl
      · simp only [if_neg h1, if_neg h2]
  · intro h' tk m' F3 hJ
    refine ex2 hJ fun t1 u hq => ?_
    have qb0 := hq
    clear hq hJ
    subst qb0
    rw [hi.length, List.take_length] at F3
    k_steps
    exact hret _ _ _ F3.keep
end Mine

/-! AddC -/
namespace Mine
noncomputable def lookI (is : List (Str × Int)) (k : Str) : Option Int := (is.find? fun p => p.1 = k).map (·.2)
/-- one more pair added to a table of ints -/
noncomputable def addI (is : List (Str × Int)) (p : Str × Int) : List (Str × Int) := match lookI is p.1 with
  | some x => is.map fun q => if q.1 = p.1 then (q.1, x + p.2) else q
  | none => is ++ [p]
noncomputable def mergeI (is js : List (Str × Int)) : List (Str × Int) := js.foldl addI is

theorem IntKvs.cons {p : Str × Value} {q : Str × Int} {kvs : List (Str × Value)} {is : List (Str × Int)} (h : IntKvs (p :: kvs) (q :: is)) : p.1 = q.1 ∧ iv p.2 = some q.2 ∧ IntKvs kvs is := by
  unfold IntKvs at h
  simp only [List.map_cons, List.cons.injEq, Prod.mk.injEq] at h
  exact ⟨h.1.1, h.1.2, h.2⟩
theorem IntKvs.look {kvs : List (Str × Value)} {is : List (Str × Int)} (h : IntKvs kvs is) (k : Str) : (valueAt kvs k).map iv = (lookI is k).map some := by
  induction kvs generalizing is with
  | nil =>
    have : is = [] := by have := h.length; simpa using this.symm
    subst this; rfl
  | cons p kvs ih =>
    cases is with
    | nil => have := h.length; simp at this
    | cons q is =>
      obtain ⟨h1, h2, h3⟩ := h.cons
      unfold valueAt lookI
      rw [List.find?_cons, List.find?_cons]
      by_cases e : p.1 = k
      · have e' : q.1 = k := h1 ▸ e
        simp [e, e', h2]
      · have e' : ¬ q.1 = k := fun x => e (h1.trans x)
        simpa [e, e', valueAt, lookI] using ih h3
theorem valueAt_any (kvs : List (Str × Value)) (k : Str) : kvs.any (fun kv => decide (kv.1 = k)) = (valueAt kvs k).isSome := by
  unfold valueAt
  induction kvs with
  | nil => rfl
  | cons p kvs ih =>
    rw [List.any_cons, List.find?_cons, ih]
    by_cases e : p.1 = k <;> simp [e]
theorem IntKvs.put_some {kvs : List (Str × Value)} {is : List (Str × Int)} (h : IntKvs kvs is) {k : Str} {x y : Int} {t : Tok} (hl : lookI is k = some x) : IntKvs (stored kvs k (.int (x + y) t)) (addI is (k, y)) := by
  have ha : kvs.any (fun kv => decide (kv.1 = k)) = true := by
    rw [valueAt_any]
    have := h.look k
    rw [hl] at this
    cases q : valueAt kvs k with
    | none => rw [q] at this; cases this
    | some v => rfl
  unfold stored addI
  rw [if_pos ha, hl]
  show List.map _ _ = List.map _ _
  rw [List.map_map, List.map_map]
  have key : ∀ (kvs : List (Str × Value)) (is : List (Str × Int)), IntKvs kvs is →
      kvs.map ((fun p => (p.1, iv p.2)) ∘ fun kv => if kv.1 = k then (kv.1, .int (x + y) t) else kv) = is.map ((fun p => (p.1, some p.2)) ∘ fun q => if q.1 = k then (q.1, x + y) else q) := by
    intro kvs
    induction kvs with
    | nil =>
      intro is h
      have : is = [] := by have := h.length; simpa using this.symm
      subst this; rfl
    | cons p kvs ih =>
      intro is h
      cases is with
      | nil => have := h.length; simp at this
      | cons q is =>
        obtain ⟨h1, h2, h3⟩ := h.cons
        rw [List.map_cons, List.map_cons, ih is h3]
        congr 1
        by_cases e : p.1 = k
        · have e' : q.1 = k := h1 ▸ e
          simp [e, e', iv]
        · have e' : ¬ q.1 = k := fun x => e (h1.trans x)
          simp [e, e', h1, h2]
  exact key kvs is h
theorem IntKvs.put_none {kvs : List (Str × Value)} {is : List (Str × Int)} (h : IntKvs kvs is) {k : Str} {y : Int} {t : Tok} (hl : lookI is k = none) : IntKvs (stored kvs k (.int y t)) (addI is (k, y)) := by
  have ha : kvs.any (fun kv => decide (kv.1 = k)) = false := by
    rw [valueAt_any]
    have := h.look k
    rw [hl] at this
    cases q : valueAt kvs k with
    | none => rfl
    | some v => rw [q] at this; cases this
  unfold stored addI
  rw [if_neg (by rw [ha]; exact Bool.false_ne_true), hl]
  unfold IntKvs at h ⊢
  rw [List.map_append, List.map_append, h]
  rfl
theorem IntKvs.take {kvs : List (Str × Value)} {is : List (Str × Int)} (h : IntKvs kvs is) (i : Nat) : IntKvs (kvs.take i) (is.take i) := by
  unfold IntKvs at h ⊢
  rw [List.map_take, List.map_take, h]
theorem stored_take {kvs : List (Str × Value)} (hn : (kvs.map (·.1)).Nodup) {i : Nat} {k : Str} {v : Value} (e : kvs[i]? = some (k, v)) : stored (kvs.take i) k v = kvs.take (i + 1) := by
  have hnot : (kvs.take i).any (fun kv => decide (kv.1 = k)) = false := by
    rw [List.any_eq_false]
    intro p hp hk
    have hk : p.1 = k := by simpa using hk
    obtain ⟨j, hj⟩ := List.getElem?_of_mem hp
    rw [List.getElem?_take] at hj
    split at hj
    · rename_i hlt
      have h1 : (kvs.map (·.1))[j]? = some k := by rw [List.getElem?_map, hj]; simp [hk]
      have h2 : (kvs.map (·.1))[i]? = some k := by rw [List.getElem?_map, e]; rfl
      obtain ⟨l1, g1⟩ := List.getElem?_eq_some_iff.mp h1
      obtain ⟨l2, g2⟩ := List.getElem?_eq_some_iff.mp h2
      have := (List.getElem_inj hn).mp (g1.trans g2.symm)
      omega
    · cases hj
  unfold stored
  rw [if_neg (by rw [hnot]; exact Bool.false_ne_true), List.take_add_one, e]
  rfl
theorem addI_length (is : List (Str × Int)) (p : Str × Int) : (addI is p).length ≤ is.length + 1 := by
  unfold addI; split <;> simp
theorem mergeI_length (is js : List (Str × Int)) : (mergeI is js).length ≤ is.length + js.length := by
  unfold mergeI
  induction js generalizing is with
  | nil => simp
  | cons p js ih =>
    rw [List.foldl_cons]
    have := ih (addI is p)
    have := addI_length is p
    simp only [List.length_cons]
    omega
theorem mergeI_take {is js : List (Str × Int)} {i : Nat} {k : Str} {y : Int} (e : js[i]? = some (k, y)) : mergeI is (js.take (i + 1)) = addI (mergeI is (js.take i)) (k, y) := by
  unfold mergeI
  rw [List.take_add_one, e, List.foldl_append]; rfl
end Mine
namespace Mine
section
variable {prog : Program} {w : World} {K : Type} [DecidableEq K] {knd : KeyKind prog w K} {A : Around} {E : Value → Shared → Prop} {s : Shared} {h₀ : Heap} {L d : Addr} {m : Str → Option Value} {own : List (Addr × Obj)} {o : Obj} {kvs : List (K × Value)} {k : K} {key v : Value}
theorem set_own {Q : Unit → Shared → Prop} (F : Fr h₀ L s.heap m := by k_asm) (N : News h₀ L s.heap ((d, o) :: own) := by k_asm) (hoff : OwnOff own [d] := by k_asm) (hd : o.IsDictOf knd kvs := by k_asm) (hkey : knd.is k key = true := by exact strKind_is _ _ _ _) (hsz : kvs.length ≤ sizeLine := by k_asm)
    (h : ∀ h' o', Fr h₀ L h' m → News h₀ L h' ((d, o') :: own) → o'.IsDictOf knd (stored kvs k v) → Q () { s with heap := h', toks := s.toks + 1 }) : wpAny (model prog w) A (setItem (.ref d) key v) Q E s :=
  kda_set F N (.head fun p hp => hoff p hp d (by simp)) hd hkey hsz h
theorem in_own_some {v' : Value} {Q : Value → Shared → Prop} (N : News h₀ L s.heap ((d, o) :: own) := by k_asm) (hd : o.IsDictOf knd kvs := by k_asm) (lo : (d == sysModules) = false := by k_asm) (hkey : knd.is k key = true := by exact strKind_is _ _ _ _) (hl : valueAt kvs k = some v' := by assumption) (h : Q (.bool true) { s with toks := s.toks + 1 }) :
    wpAny (model prog w) A (compareOp .In key (.ref d)) Q E s := kda_in N (.head _) hd lo hkey true (by rw [hl]; rfl) h
theorem in_own_none {Q : Value → Shared → Prop} (N : News h₀ L s.heap ((d, o) :: own) := by k_asm) (hd : o.IsDictOf knd kvs := by k_asm) (lo : (d == sysModules) = false := by k_asm) (hkey : knd.is k key = true := by exact strKind_is _ _ _ _) (hl : valueAt kvs k = none := by assumption) (h : Q (.bool false) { s with toks := s.toks + 1 }) :
    wpAny (model prog w) A (compareOp .In key (.ref d)) Q E s := kda_in N (.head _) hd lo hkey false (by rw [hl]; rfl) h
theorem get_own_some {v' : Value} {Q : Value → Shared → Prop} (N : News h₀ L s.heap ((d, o) :: own) := by k_asm) (hd : o.IsDictOf knd kvs := by k_asm) (hkey : knd.is k key = true := by exact strKind_is _ _ _ _) (hl : valueAt kvs k = some v' := by assumption) (h : Q v' { s with toks := s.toks + 1 }) :
    wpAny (model prog w) A (getItem (.ref d) key) Q E s := wpAny_getItem_of hkey (kda_dict N (.head _) hd).mapOf hl h
end
local macro_rules | `(tactic| walk_at $s:str) => kP s [("compareOp In str ref", kF (kS ``in_own_some) (kS ``in_own_none)), ("getItem ref str", kS ``get_own_some), ("exec For Tuple Call", kH)]
local macro_rules | `(tactic| walk_at "setItem ref str") => `(tactic| (k_dflt (refine set_own (knd := strKind _ _) (h := ?_)); intro h' o' F' N' hd'; (try dsimp only at N')))
theorem c_add : ∀ (w : World) (loose : List Str) (mean : ExcName → Option Value) (mg mb : Str → Option Value) (dp un : Nat) (gd : Option (List Code)) (cn : Str) (cs : Scope) (a : Addr) (ccd : Value) (cl : List (Str × Addr)) (outer : List Env) (A₀ : Around) (base h₀ : Heap) (L : Addr) (m : Str → Option Value) (s : Shared) (Q E : Value → Shared → Prop) (dt ds : Addr) (kt ks : List (Str × Value)) (it is : List (Str × Int)),
    Site w (hd.heap_39 w.params) loose mean mg mb dp un cs outer A₀ base h₀ L m 10 s → (dt == sysModules) = false → (ds == sysModules) = false →
    s.heap.DictOf (strKind PySem.Challenge.rw_zo0006_01.row.prog w) dt kt → IntKvs kt it → s.heap.DictOf (strKind PySem.Challenge.rw_zo0006_01.row.prog w) ds ks → IntKvs ks is → kt.length + ks.length < 1000 →
    (∀ (h' : Heap) (tk' : Nat) (d : Addr) (kvs : List (Str × Value)), (∀ b o, s.heap.get? b = some o → h'.get? b = some o) → (d == sysModules) = false → s.heap.get? d = none → h'.DictOf (strKind PySem.Challenge.rw_zo0006_01.row.prog w) d kvs → IntKvs kvs (mergeI it is) →
      Q (.ref d) { s with heap := h', toks := tk' }) →
      wpAny (model PySem.Challenge.rw_zo0006_01.row.prog w) (ktrTop dp un gd cn cs L a ccd cl outer) (call (.ref 43) [.ref dt, .ref ds]) Q E s := by
  k_fill
  w_top off
  intro w loose mean mg mb dp un gd cn cs a ccd cl outer A₀ base h₀ L m s Q E dt ds kt ks it is S lot los hdt hit hds his hlen hret
  obtain ⟨hB, hF, hK, hT, hk, hdp, hun⟩ := S
  have hnt : (kt.map (·.1)).Nodup := by obtain ⟨_, _, _, _, _, _, _, _, h⟩ := hdt; exact h
  refine wpAny_call (enter0 (binds := [("target", .ref dt), ("source", .ref ds)]) hB hF hK hT rfl rfl hk (by k_is) (by k_is) (by ktr_room) (BindsTo.of_eq rfl) (locs rfl) ?_ rfl rfl rfl (by decide))
  intro L' h₁ F1 N1 B1 X1 T1 st1
  dsimp only
  k_fold
  k_steps
  rename Fr s.heap _ _ _ => F2
  rename News s.heap _ _ _ => N2
  rename Obj.IsDictOf (strKind _ _) _ _ => D2
  rename Addr => dn
  rename (_ == sysModules) = false => lon
  unfold Hold
  refine For_items (knd := strKind _ _) rfl (by rfl) (by rfl) (by rfl) F2 N2 lot hdt (by with_unfolding_all rfl) (by rfl) (fun Q' hq => ld F2 (by rfl) hq)
    (fun i m nw => Hold (∃ (u1 u2 : Option Value) (o : Obj), nw = [(dn, o)] ∧ o.IsDictOf (strKind PySem.Challenge.rw_zo0006_01.row.prog w) (kt.take i) ∧ m = fun (z : Str) => if z = ("caller" : Str) then u1 else if z = ("func" : Str) then u2 else if z = ("new_callers" : Str) then some (.ref dn) else ([("source", Value.ref ds), ("target", Value.ref dt)] : List (Str × Value)).lookup z)) ?_ ?_ ?_
  · refine ⟨none, none, _, rfl, D2, funext fun z => ?_⟩
    by_cases h1 : z = ("caller" : Str)
    · subst h1; rfl
    · by_cases h2 : z = ("func" : Str)
      · subst h2; rfl
      · rw [if_neg h1, if_neg h2]; rfl
  · intro i k v key m₁ news₁ h tk own hk hkey ha hoff hJ F3 N3
    refine ex3 hJ fun u1 u2 o hq => ?_
    have qb0 := hq.1
    have D3 := hq.2.1
    have qb2 := hq.2.2
    clear hq hJ
    subst qb0
    subst qb2
    obtain ⟨t, rfl⟩ := Value.isStrOf_shape hkey
    have hz : (kt.take i).length ≤ sizeLine := by rw [sizeLine_eq, List.length_take]; omega
    clear F2 N2 D2
    k_steps
    rename Fr s.heap _ _ _ => F4
    rename News s.heap _ _ _ => N4
    rename Obj.IsDictOf (strKind _ _) _ _ => D4
    rw [stored_take hnt hk] at D4
    refine InvEndN.intro F4 N4 ⟨some v, some (.str k t), _, rfl, D4, funext fun z => ?_⟩ rfl (fun p hp => by rw [List.mem_singleton.mp hp]; exact .head _) fun p hp => .tail _ hp
    by_cases h1 : z = ("caller" : Str)
    · subst h1; rfl
    · by_cases h2 : z = ("func" : Str)
      · subst h2; rfl
      · simp only [if_neg h1, if_neg h2]
  · intro h' tk m' news' F3 N3 ha hJ
    refine ex3 hJ fun u1 u2 o hq => ?_
    have qb0 := hq.1
    have D3 := hq.2.1
    have qb2 := hq.2.2
    clear hq hJ
    subst qb0
    subst qb2
    rw [List.take_length] at D3
    clear F2 N2 D2
    k_steps
    unfold Hold
    refine For_items (knd := strKind _ _) rfl (by rfl) (by rfl) (by rfl) F3 N3 los hds (by with_unfolding_all rfl) (by rfl) (fun Q' hq => ld F3 (by rfl) hq)
      (fun i m nw => Hold (∃ (u1 u2 : Option Value) (o : Obj) (kvs : List (Str × Value)), nw = [(dn, o)] ∧ o.IsDictOf (strKind PySem.Challenge.rw_zo0006_01.row.prog w) kvs ∧ IntKvs kvs (mergeI it (is.take i)) ∧ m = fun (z : Str) => if z = ("caller" : Str) then u1 else if z = ("func" : Str) then u2 else if z = ("new_callers" : Str) then some (.ref dn) else ([("source", Value.ref ds), ("target", Value.ref dt)] : List (Str × Value)).lookup z)) ?_ ?_ ?_
    · exact ⟨u1, u2, _, _, rfl, D3, hit, rfl⟩
    · intro i k v key m₁ news₁ h tk own hk hkey ha hoff hJ F5 N5
      refine ex4 hJ fun u1 u2 o kvs hq => ?_
      have qb0 := hq.1
      have D5 := hq.2.1
      have hi5 := hq.2.2.1
      have qb3 := hq.2.2.2
      clear hq hJ
      subst qb0
      subst qb3
      obtain ⟨t, rfl⟩ := Value.isStrOf_shape hkey
      obtain ⟨x, tx, e1, rfl⟩ := his.at hk
      have hz : kvs.length ≤ sizeLine := by
        rw [sizeLine_eq, hi5.length]
        have := mergeI_length it (is.take i)
        have := hit.length
        have := his.length
        rw [List.length_take] at *
        omega
      clear F3 N3 D3
      have hlk := hi5.look k
      cases hl : valueAt kvs k with
      | none =>
        have hln : lookI (mergeI it (is.take i)) k = none := by
          rw [hl] at hlk
          cases q : lookI (mergeI it (is.take i)) k with
          | none => rfl
          | some y => rw [q] at hlk; cases hlk
        k_steps
        rename Fr s.heap _ _ _ => F6
        rename News s.heap _ _ _ => N6
        rename Obj.IsDictOf (strKind _ _) _ _ => D6
        refine InvEndN.intro F6 N6 ⟨some (.int x tx), some (.str k t), _, _, rfl, D6, (mergeI_take (is := it) e1).symm ▸ hi5.put_none hln, funext fun z => ?_⟩ rfl (fun p hp => by rw [List.mem_singleton.mp hp]; exact .head _) fun p hp => .tail _ hp
        by_cases h1 : z = ("caller" : Str)
        · subst h1; rfl
        · by_cases h2 : z = ("func" : Str)
          · subst h2; rfl
          · simp only [if_neg h1, if_neg h2]
      | some v0 =>
        rw [hl] at hlk
        obtain ⟨y, hy⟩ : ∃ y, lookI (mergeI it (is.take i)) k = some y := by
          cases q : lookI (mergeI it (is.take i)) k with
          | none => rw [q] at hlk; cases hlk
          | some y => exact ⟨y, rfl⟩
        rw [hy] at hlk
        obtain ⟨ty, rfl⟩ := iv_some (Option.some.inj hlk)
        k_steps
        rename Fr s.heap _ _ _ => F6
        rename News s.heap _ _ _ => N6
        rename Obj.IsDictOf (strKind _ _) _ _ => D6
        refine InvEndN.intro F6 N6 ⟨some (.int x tx), some (.str k t), _, _, rfl, D6, (mergeI_take (is := it) e1).symm ▸ hi5.put_some hy, funext fun z => ?_⟩ rfl (fun p hp => by rw [List.mem_singleton.mp hp]; exact .head _) fun p hp => .tail _ hp
        by_cases h1 : z = ("caller" : Str)
        · subst h1; rfl
        · by_cases h2 : z = ("func" : Str)
          · subst h2; rfl
          · simp only [if_neg h1, if_neg h2]
    · intro h' tk m' news' F5 N5 ha hJ
      refine ex4 hJ fun u1 u2 o kvs hq => ?_
      have qb0 := hq.1
      have D5 := hq.2.1
      have hi5 := hq.2.2.1
      have qb3 := hq.2.2.2
      clear hq hJ
      subst qb0
      subst qb3
      rw [his.length, List.take_length] at hi5
      clear F3 N3 D3
      k_steps
      exact hret _ _ dn kvs F5.keep lon (N5 _ (.head _)).2.2 (Heap.dictOf_iff.mpr ⟨o, (N5 _ (.head _)).1, D5⟩) hi5
end Mine

/-! Tab -/
namespace Mine
noncomputable def tableI (rows : Str → List (Str × Int)) (ws : List Str) : List (Str × Int) := ws.foldl (fun acc x => mergeI acc (rows x)) []
theorem tableI_take {rows : Str → List (Str × Int)} {ws : List Str} {i : Nat} {k : Str} (e : ws[i]? = some k) : tableI rows (ws.take (i + 1)) = mergeI (tableI rows (ws.take i)) (rows k) := by
  unfold tableI
  rw [List.take_add_one, e, List.foldl_append]; rfl
theorem tableI_length {rows : Str → List (Str × Int)} (hs : ∀ k, (rows k).length ≤ 4) (ws : List Str) : (tableI rows ws).length ≤ 4 * ws.length := by
  have key : ∀ (ws : List Str) (acc : List (Str × Int)), (ws.foldl (fun acc x => mergeI acc (rows x)) acc).length ≤ acc.length + 4 * ws.length := by
    intro ws
    induction ws with
    | nil => intro acc; simp
    | cons k ws ih =>
      intro acc
      rw [List.foldl_cons]
      have h1 := ih (mergeI acc (rows k))
      have h2 := mergeI_length acc (rows k)
      have h3 := hs k
      refine Nat.le_trans h1 (Nat.le_trans (Nat.add_le_add_right (Nat.le_trans h2 (Nat.add_le_add_left h3 _)) _) ?_)
      rw [List.length_cons, Nat.mul_succ, Nat.add_assoc, Nat.add_comm 4]
      exact Nat.le_refl _
  have := key ws []
  unfold tableI
  simpa using this
section
variable {prog : Program} {w : World} {K : Type} [DecidableEq K] {knd : KeyKind prog w K} {A : Around} {E : Value → Shared → Prop} {s : Shared} {d : Addr} {kvs : List (K × Value)} {k : K} {key dflt v : Value} {Q : Value → Shared → Prop}
theorem get2_some (lo : (d == sysModules) = false := by assumption) (hd : s.heap.DictOf knd d kvs := by exact Heap.DictOf.keep (by assumption) (Fr.keep (by k_asm))) (hkey : knd.is k key = true := by exact strKind_is _ _ _ _) (hl : valueAt kvs k = some v := by assumption) (h : Q v { s with toks := s.toks + 1 }) : wpAny (model prog w) A (call (.builtin "dict.get") [.ref d, key, dflt]) Q E s :=
  call_get2_base lo hd hkey (by rw [hl]; exact h)
theorem get2_none (lo : (d == sysModules) = false := by assumption) (hd : s.heap.DictOf knd d kvs := by exact Heap.DictOf.keep (by assumption) (Fr.keep (by k_asm))) (hkey : knd.is k key = true := by exact strKind_is _ _ _ _) (hl : valueAt kvs k = none := by assumption) (h : Q dflt { s with toks := s.toks + 1 }) : wpAny (model prog w) A (call (.builtin "dict.get") [.ref d, key, dflt]) Q E s :=
  call_get2_base lo hd hkey (by rw [hl]; exact h)
end
local macro_rules | `(tactic| walk_at $s:str) => kP s [("exec For Name Name cons nil", kH), ("call ref", kR 43), ("getMethod ref", kA ``method_getA), ("call builtin:dict.get", kF (kS ``get2_some) (kS ``get2_none))]
theorem c_table : ∀ (w : World) (loose : List Str) (mean : ExcName → Option Value) (mg mb : Str → Option Value) (dp un : Nat) (gd : Option (List Code)) (cn : Str) (cs : Scope) (a : Addr) (ccd : Value) (cl : List (Str × Addr)) (outer : List Env) (A₀ : Around) (base h₀ : Heap) (L : Addr) (m : Str → Option Value) (s : Shared) (Q E : Value → Shared → Prop) (l dc : Addr) (vs : List Value) (ws : List Str) (kc : List (Str × Value)) (rows : Str → List (Str × Int)),
    Site w (hd.heap_39 w.params) loose mean mg mb dp un cs outer A₀ base h₀ L m 20 s → s.heap.IsList l vs.toArray → StrsAre vs ws → ws.length < 100 → (dc == sysModules) = false →
    s.heap.DictOf (strKind PySem.Challenge.rw_zo0006_01.row.prog w) dc kc →
    (∀ k v, valueAt kc k = some v → ∃ D kd, v = .ref D ∧ (D == sysModules) = false ∧ s.heap.DictOf (strKind PySem.Challenge.rw_zo0006_01.row.prog w) D kd ∧ IntKvs kd (rows k)) →
    (∀ k, valueAt kc k = none → rows k = []) → (∀ k, (rows k).length ≤ 4) →
    (∀ (h' : Heap) (tk' : Nat) (d : Addr) (kvs : List (Str × Value)), (∀ b o, s.heap.get? b = some o → h'.get? b = some o) → (d == sysModules) = false → s.heap.get? d = none → h'.DictOf (strKind PySem.Challenge.rw_zo0006_01.row.prog w) d kvs → IntKvs kvs (tableI rows ws) →
      Q (.ref d) { s with heap := h', toks := tk' }) →
      wpAny (model PySem.Challenge.rw_zo0006_01.row.prog w) (ktrTop dp un gd cn cs L a ccd cl outer) (call (.ref 69) [.ref l, .ref dc]) Q E s := by
  k_fill
  w_top off
  intro w loose mean mg mb dp un gd cn cs a ccd cl outer A₀ base h₀ L m s Q E l dc vs ws kc rows S hl hvs hwl loc hdc hsome hnone hsmall hret
  obtain ⟨hB, hF, hK, hT, hk, hdp, hun⟩ := S
  refine wpAny_call (enter0 (binds := [("words", .ref l), ("calls", .ref dc)]) hB hF hK hT rfl rfl hk (by k_is) (by k_is) (by ktr_room) (BindsTo.of_eq rfl) (locs rfl) ?_ rfl rfl rfl (by decide))
  intro L' h₁ F1 N1 B1 X1 T1 st1
  dsimp only
  k_fold
  k_steps
  rename Fr s.heap _ _ _ => F2
  rename News s.heap _ _ _ => N2
  rename Obj.IsDictOf (strKind _ _) _ _ => D2
  rename Addr => dn
  rename (_ == sysModules) = false => lon
  unfold Hold
  refine For_listJ rfl (by rfl) (by rfl) F2 N2 hl (fun Q' hq => ld F2 (by rfl) hq) (by intro _; rfl)
    (fun i m nw => Hold (∃ (u : Option Value) (dn : Addr) (o : Obj) (kvs : List (Str × Value)), nw = [(dn, o)] ∧ (dn == sysModules) = false ∧ o.IsDictOf (strKind PySem.Challenge.rw_zo0006_01.row.prog w) kvs ∧ IntKvs kvs (tableI rows (ws.take i)) ∧ m = fun (z : Str) => if z = ("word" : Str) then u else if z = ("table" : Str) then some (.ref dn) else ([("calls", Value.ref dc), ("words", Value.ref l)] : List (Str × Value)).lookup z)) ?_ ?_ ?_
  · refine ⟨none, dn, _, [], rfl, lon, D2, rfl, funext fun z => ?_⟩
    by_cases h1 : z = ("word" : Str)
    · subst h1; rfl
    · rw [if_neg h1]; rfl
  · intro i v m₁ news₁ h tk I oI hv hJ hoff F3 N3
    refine ex4 hJ fun u dn o kvs hq => ?_
    have qb0 := hq.1
    have lon := hq.2.1
    have D3 := hq.2.2.1
    have hi3 := hq.2.2.2.1
    have qb4 := hq.2.2.2.2
    clear hq hJ
    subst qb0
    subst qb4
    obtain ⟨k, t, rfl, hk⟩ := StrsAre.item hvs i v hv
    clear F2 N2 D2
    cases hl : valueAt kc k with
    | none =>
      k_steps
      rename Fr s.heap _ _ _ => F4
      rename News s.heap _ _ _ => N4
      rename Obj.IsDictOf (strKind _ _) _ _ => D4
      rename (_ == sysModules) = false => lo4
      unfold Hold
      have hiD : IntKvs [] (rows k) := by rw [hnone k hl]; rfl
      refine c_add _ _ _ _ _ _ _ _ _ _ _ _ _ _ _ _ _ _ _ _ _ _ _ _ kvs [] _ (rows k) ⟨B1, F4, X1, T1, rfl, by show dp + 1 + 10 < _; exact room1 (by assumption) (by decide), by show un + 3 + 10 * 10 < _; exact room3 (by assumption) (by decide)⟩ lon lo4
        (Heap.dictOf_iff.mpr ⟨o, (N4 (dn, o) (by simp)).1, D3⟩) hi3 (Heap.dictOf_iff.mpr ⟨_, (N4 _ (.head _)).1, D4⟩) hiD (by have h2 := tableI_length hsmall (ws.take i); rw [List.length_take] at h2; exact tab_room hi3.length h2 (by assumption) (Nat.zero_le 4)) ?_
      intro h5 tk5 d5 kvs5 up lo5 fr5 hd5 hi5
      obtain ⟨o5, ho5, D5⟩ := Heap.dictOf_iff.mp hd5
      have hne : d5 ≠ I := fun e => by
        have h1 := (N4 (I, oI) (by simp)).1
        rw [e] at fr5
        rw [fr5] at h1; cases h1
      obtain ⟨F5, N5⟩ := news_add F4 N4 up fr5 ho5
      clear F4 N4
      dsimp only
      k_steps
      rename Fr s.heap _ _ _ => F6
      rename News s.heap _ _ _ => N6
      refine TurnP.intro F6 (news' := [(d5, o5)]) (fun p hp => N6 p (by simp at hp ⊢; rcases hp with rfl | rfl <;> simp)) (fun p hp => by rw [List.mem_singleton.mp hp]; exact hne) ⟨some (.str k t), d5, o5, kvs5, rfl, lo5, D5, (tableI_take (rows := rows) hk).symm ▸ hi5, funext fun z => ?_⟩
      by_cases h1 : z = ("word" : Str)
      · subst h1; rfl
      · by_cases h2 : z = ("table" : Str)
        · subst h2; rfl
        · simp only [if_neg h1, if_neg h2]
    | some vd =>
      obtain ⟨D, kd, rfl, loD, hD, hiD⟩ := hsome k vd hl
      k_steps
      rename Fr s.heap _ _ _ => F4
      rename News s.heap _ _ _ => N4
      unfold Hold
      refine c_add _ _ _ _ _ _ _ _ _ _ _ _ _ _ _ _ _ _ _ _ _ _ _ _ kvs kd _ (rows k) ⟨B1, F4, X1, T1, rfl, by show dp + 1 + 10 < _; exact room1 (by assumption) (by decide), by show un + 3 + 10 * 10 < _; exact room3 (by assumption) (by decide)⟩ lon loD
        (Heap.dictOf_iff.mpr ⟨o, (N4 (dn, o) (by simp)).1, D3⟩) hi3 (hD.keep F4.keep) hiD (by have h2 := tableI_length hsmall (ws.take i); rw [List.length_take] at h2; exact tab_room hi3.length h2 (by assumption) (hiD.length ▸ hsmall k)) ?_
      intro h5 tk5 d5 kvs5 up lo5 fr5 hd5 hi5
      obtain ⟨o5, ho5, D5⟩ := Heap.dictOf_iff.mp hd5
      have hne : d5 ≠ I := fun e => by
        have h1 := (N4 (I, oI) (by simp)).1
        rw [e] at fr5
        rw [fr5] at h1; cases h1
      obtain ⟨F5, N5⟩ := news_add F4 N4 up fr5 ho5
      clear F4 N4
      dsimp only
      k_steps
      rename Fr s.heap _ _ _ => F6
      rename News s.heap _ _ _ => N6
      refine TurnP.intro F6 (news' := [(d5, o5)]) (fun p hp => N6 p (by simp at hp ⊢; rcases hp with rfl | rfl <;> simp)) (fun p hp => by rw [List.mem_singleton.mp hp]; exact hne) ⟨some (.str k t), d5, o5, kvs5, rfl, lo5, D5, (tableI_take (rows := rows) hk).symm ▸ hi5, funext fun z => ?_⟩
      by_cases h1 : z = ("word" : Str)
      · subst h1; rfl
      · by_cases h2 : z = ("table" : Str)
        · subst h2; rfl
        · simp only [if_neg h1, if_neg h2]
  · intro h' tk m' news' F3 N3 hJ
    refine ex4 hJ fun u dn o kvs hq => ?_
    have qb0 := hq.1
    have lon := hq.2.1
    have D3 := hq.2.2.1
    have hi3 := hq.2.2.2.1
    have qb4 := hq.2.2.2.2
    clear hq hJ
    subst qb0
    subst qb4
    clear F2 N2 D2
    rw [hvs.length, List.take_length] at hi3
    k_steps
    exact hret _ _ dn kvs F3.keep lon (N3 _ (.head _)).2.2 (Heap.dictOf_iff.mpr ⟨o, (N3 _ (.head _)).1, D3⟩) hi3
end Mine

/-! Comp -/
namespace Mine
/-- a comprehension's turn leaves the ledger as it was -/
noncomputable def TEnd (h₀ : Heap) (L : Addr) (m : Str → Option Value) (s₁ : Shared) (all : List (Addr × Obj)) (R : Value → Prop) (y : Value) (s₂ : Shared) : Prop :=
  ∃ h' tk', s₂ = { s₁ with heap := h', toks := tk' } ∧ Fr h₀ L h' m ∧ News h₀ L h' all ∧ R y
theorem TEnd.intro {h₀ h' : Heap} {L : Addr} {m : Str → Option Value} {s₁ : Shared} {all big : List (Addr × Obj)} {R : Value → Prop} {y : Value} {tk' : Nat} (F : Fr h₀ L h' m) (N : News h₀ L h' big) (sub : ∀ p ∈ all, p ∈ big) (r : R y) :
    TEnd h₀ L m s₁ all R y { s₁ with heap := h', toks := tk' } := ⟨h', tk', rfl, F, fun p hp => N p (sub p hp), r⟩
section
variable {prog : Program} {w : World} {A : Around} {h₀ : Heap} {L : Addr} {m : Str → Option Value} {env : Env} {ct elt : PySem.Expr} {x : Str} {scope : Scope} {cl : List (Str × Addr)} {s : Shared} {S : List (Addr × Obj) → Prop} {P : Nat → Value → Prop}
  {Fin : List Value → List (Addr × Obj) → Prop} {news : List (Addr × Obj)} {n : Nat}
/-- [elt for x in .. if ct] -/
theorem restT (tst : Nat → Bool) (G : Nat → Value → Prop) (hS : S news)
    (turn : ∀ i v I oI C oC D m₂ ys h tk (E' : Value → Shared → Prop), i < n → P i v → LCg.NsObj oC m₂ → m₂ x = some v → Fr h₀ L h m → News h₀ L h ((I, oI) :: (C, oC) :: (D, LCg.lst ys) :: news) → LCg.Off3 I C D news → ((@Ne Nat I C) ∧ (@Ne Nat I D) ∧ (@Ne Nat C D)) →
      wpAny (model prog w) A (isTrue ct (compEnvC scope cl C env) (eval ct (compEnvC scope cl C env))) (fun ok s' => ok = tst i ∧ (if tst i = true then
        wpAny (model prog w) A (eval elt (compEnvC scope cl C env)) (TEnd h₀ L m { s with heap := h, toks := tk } ((I, oI) :: (C, oC) :: (D, LCg.lst ys) :: news) (G i)) E' s'
        else TEnd h₀ L m { s with heap := h, toks := tk } ((I, oI) :: (C, oC) :: (D, LCg.lst ys) :: news) (fun _ => True) Value.none s')) E' { s with heap := h, toks := tk })
    (fin : ∀ ys, Paired G ((List.range n).filter tst) ys → Fin ys news) : LCt.CompRestT prog w A h₀ L m env ct elt x scope cl s S P Fin n 0 [] news := by
  have key : ∀ (j i : Nat) (ys : List Value), i + j = n → Paired G ((List.range i).filter tst) ys → LCt.CompRestT prog w A h₀ L m env ct elt x scope cl s S P Fin j i ys news := by
    intro j
    induction j with
    | zero =>
      intro i ys hi hy
      have e : i = n := by omega
      subst e
      exact LCt.CompRestT.zero (fin ys hy)
    | succ j ih =>
      intro i ys hi hy
      refine LCt.CompRestT.succ ?_
      intro v I oI C oC D m₂ h tk E' hv hC hx F N off ne
      refine wpAny_mono (turn i v I oI C oC D m₂ ys h tk E' (by omega) hv hC hx F N off ne) (fun ok s' q => ?_) fun _ _ e => e
      obtain ⟨rfl, q⟩ := q
      cases ht : tst i with
      | true =>
        rw [ht] at q
        simp only [if_true] at q ⊢
        refine wpAny_mono q (fun y s₂ q => ?_) fun _ _ e => e
        obtain ⟨h', tk', e, F', N', g⟩ := q
        refine ⟨h', tk', news, e, F', N', off, hS, ih (i + 1) _ (by omega) ?_⟩
        rw [List.range_succ, List.filter_append]
        simpa [ht] using Paired.snoc hy g
      | false =>
        rw [ht] at q
        simp only [Bool.false_eq_true, if_false] at q ⊢
        obtain ⟨h', tk', e, F', N', _⟩ := q
        refine ⟨h', tk', news, e, F', N', off, hS, ih (i + 1) _ (by omega) ?_⟩
        rw [List.range_succ, List.filter_append]
        simpa [ht] using hy
  exact key n 0 [] (by omega) .nil
theorem srcT {Fin' : Shared → List Value → List (Addr × Obj) → Prop} {r : Addr} {a b : Int} {t u v : Tok} {s₁ : Shared} (hh : A.handled = none := by rfl) (F : Fr h₀ L s₁.heap m := by k_asm) (N : News h₀ L s₁.heap news := by k_asm) (hr : IsRange s₁.heap r a b 1 t u v := by assumption)
    (hsm : Builtin.Range.small a b 1 = true := by first | decide | rfl) (hn : Builtin.Range.rangeSize a b 1 = ((n : Nat) : Int) := by first | rfl | decide) (hsz : n ≤ sizeLine := by exact Nat.le_of_ble_eq_true rfl)
    (h : ∀ g, Hold (LCt.CompRestT prog w A h₀ L m env ct elt x scope cl { s₁ with heap := g } (fun _ => True) (fun i v => ∃ t, v = .int (a + (i : Int)) t) (Fin' { s₁ with heap := g }) n 0 [] news)) :
    LCt.CompSrcT prog w A h₀ L m env ct elt x scope cl Fin' (.ref r) s₁ := LCt.CompSrcT.range hh F N hr hsm hn hsz h
end
end Mine

/-! Rest -/
namespace Mine
/-- the pieces whose place the number does not name -/
noncomputable def restL (lost : Int) (ps : List Str) : List Str := ((List.range 4).filter fun i => decide (Int.fmod (Int.fdiv lost (2 ^ i)) 2 = 0)).map fun i => ps.getD i ""
theorem paired_strs {f : Nat → Str} : ∀ {l : List Nat} {ys : List Value}, Paired (fun i v => ∃ t, v = Value.str (f i) t) l ys → StrsAre ys (l.map f)
  | _, _, .nil => .nil
  | _, _, .cons ⟨t, e⟩ h => by subst e; exact .cons _ t (paired_strs h)
theorem sum_len_le {c : Nat} : ∀ {l : List Str}, (∀ x ∈ l, x.length ≤ c) → (l.map (·.length)).sum ≤ c * l.length
  | [], _ => by simp
  | x :: l, h => by
    have h1 := h x (.head _)
    have h2 := sum_len_le (l := l) fun y hy => h y (.tail _ hy)
    simp only [List.map_cons, List.sum_cons, List.length_cons]
    rw [Nat.mul_add]; omega
theorem restL_weight {lost : Int} {p0 p1 p2 p3 : Str} (h0 : p0.length ≤ 2) (h1 : p1.length ≤ 2) (h2 : p2.length ≤ 2) (h3 : p3.length ≤ 2) : ((restL lost [p0, p1, p2, p3]).map (·.length)).sum + (restL lost [p0, p1, p2, p3]).length ≤ 1048576 := by
  have hl : (restL lost [p0, p1, p2, p3]).length ≤ 4 := by
    unfold restL
    rw [List.length_map]
    exact Nat.le_trans (List.length_filter_le _ _) (by simp)
  have := sum_len_le (c := 2) (l := restL lost [p0, p1, p2, p3]) fun x hx => by
    unfold restL at hx
    obtain ⟨i, hi, rfl⟩ := List.mem_map.mp hx
    have hi := List.mem_range.mp (List.mem_filter.mp hi).1
    have : i = 0 ∨ i = 1 ∨ i = 2 ∨ i = 3 := lt4 (by first | assumption | omega)
    rcases this with rfl | rfl | rfl | rfl <;> assumption
  omega
local macro_rules | `(tactic| walk_at $s:str) => kP s [("call builtin:str.join", kJ), ("CompSrcT", kI 1 (kN ``srcT 4))]
local macro_rules | `(tactic| walk_at $s:str) => kP s [("subscriptTail", kA ``item_baseA)]
theorem c_rest : ∀ (w : World) (loose : List Str) (mean : ExcName → Option Value) (mg mb : Str → Option Value) (dp un : Nat) (gd : Option (List Code)) (cn : Str) (cs : Scope) (a : Addr) (ccd : Value) (cl : List (Str × Addr)) (outer : List Env) (A₀ : Around) (base h₀ : Heap) (L : Addr) (m : Str → Option Value) (s : Shared) (Q E : Value → Shared → Prop) (lp : Addr) (lost : Int) (tl : Tok) (p0 p1 p2 p3 : Str) (v0 v1 v2 v3 : Tok),
    Site w (hd.heap_39 w.params) loose mean mg mb dp un cs outer A₀ base h₀ L m 20 s → s.heap.IsList lp [.str p0 v0, .str p1 v1, .str p2 v2, .str p3 v3].toArray →
    0 ≤ lost → lost < 16 → p0.length ≤ 2 → p1.length ≤ 2 → p2.length ≤ 2 → p3.length ≤ 2 →
    (∀ (h' : Heap) (tk' : Nat) (t : Tok), (∀ b o, s.heap.get? b = some o → h'.get? b = some o) → 
      Q (.str (Txt.join (Str.ofString "") (restL lost [p0, p1, p2, p3])) t) { s with heap := h', toks := tk' }) →
      wpAny (model PySem.Challenge.rw_zo0006_01.row.prog w) (ktrTop dp un gd cn cs L a ccd cl outer) (call (.ref 81) [.ref lp, .int lost tl]) Q E s := by
  k_fill
  w_top off
  intro w loose mean mg mb dp un gd cn cs a ccd cl outer A₀ base h₀ L m s Q E lp lost tl p0 p1 p2 p3 v0 v1 v2 v3 S hlp hl0 hl1 hp0 hp1 hp2 hp3 hret
  obtain ⟨hB, hF, hK, hT, hk, hdp, hun⟩ := S
  refine wpAny_call (enter0C (binds := [("pieces", .ref lp), ("lost", .int lost tl)]) hB hF hK hT rfl rfl hk (by k_is) (by k_is) (by ktr_room) (BindsTo.of_eq rfl) (by rfl) (by decide +kernel) ?_ rfl rfl rfl)
  intro L' h₁ tk cells F1 N1 Y1 B1 X1 T1 st1
  k_cells Y1
  dsimp only
  show wpAny _ _ _ _ _ _
  k_fold
  k_steps
  unfold Hold
  rename Fr s.heap _ _ _ => F2
  rename News s.heap _ _ _ => N2
  refine restT (fun i => decide (Int.fmod (Int.fdiv lost (2 ^ i)) 2 = 0)) (fun i v => ∃ t, v = .str ([p0, p1, p2, p3].getD i "") t) trivial ?_ ?_
  · intro i v I oI C oC D m₂ ys h tk E' hi hv hC hx F3 N3 off ne
    obtain ⟨t, rfl⟩ := hv
    have : i = 0 ∨ i = 1 ∨ i = 2 ∨ i = 3 := lt4 (by first | assumption | omega)
    clear F2 N2
    rcases this with rfl | rfl | rfl | rfl
    all_goals
      k_steps
      all_goals
        rename Fr s.heap _ _ _ => F4
        rename News s.heap _ _ _ => N4
        first
        | exact ⟨_, _, rfl, F4, N4, _, rfl⟩
        | exact ⟨_, _, rfl, F4, N4, trivial⟩
  · intro ys hys D h tk F3 N3 o3
    clear F2 N2
    have hss := paired_strs hys
    have hsw := restL_weight (lost := lost) hp0 hp1 hp2 hp3
    dsimp only
    k_steps
    rename Fr s.heap _ _ _ => F4
    exact hret _ _ _ F4.keep
end Mine

/-! DComp -/
namespace Mine
section
variable {prog : Program} {w : World} {A : Around} {E : Value → Shared → Prop} {s : Shared} {h₀ : Heap} {L : Addr} {m : Str → Option Value} {env : Env} {K : Type} [DecidableEq K] {knd : KeyKind prog w K}

/-- what a walk over a source leaves told when a turn has ended -/
noncomputable def StOk (h₀ : Heap) (L I : Addr) (news : List (Addr × Obj)) (St : Nat → Heap → Prop) : Prop :=
  ∀ i h h' o, St i h → h.get? I = some o → h'.get? I = some o → (∀ b o, h₀.get? b = some o → h'.get? b = some o) → News h₀ L h' news → St i h'

/-- a turn of {kx: vx for x in .. if ct} -/
noncomputable def DTurn (prog : Program) (w : World) (A : Around) (h₀ : Heap) (L : Addr) (m : Str → Option Value) (env : Env) (ct kx vx : PySem.Expr) (x : Str) (scope : Scope) (cl : List (Str × Addr)) (s : Shared) (news : List (Addr × Obj)) (knd : KeyKind prog w K) (P : Nat → Value → Prop) (n : Nat) (J : Nat → List (K × Value) → Prop) : Prop :=
  ∀ i v I oI C oC D oD kvs m₂ h tk (E' : Value → Shared → Prop), i < n → P i v → J i kvs → oD.IsDictOf knd kvs → LCg.NsObj oC m₂ → m₂ x = some v → Fr h₀ L h m → News h₀ L h ((I, oI) :: (C, oC) :: (D, oD) :: news) → LCg.Off3 I C D news → ((@Ne Nat I C) ∧ (@Ne Nat I D) ∧ (@Ne Nat C D)) →
      wpAny (model prog w) A (isTrue ct (compEnvC scope cl C env) (eval ct (compEnvC scope cl C env))) (fun ok s' => if ok = true then
        wpAny (model prog w) A (eval kx (compEnvC scope cl C env)) (fun kv s'' => wpAny (model prog w) A (eval vx (compEnvC scope cl C env))
          (fun vv s₂ => TEnd h₀ L m { s with heap := h, toks := tk } ((I, oI) :: (C, oC) :: (D, oD) :: news) (fun vv => ∃ k, knd.is k kv = true ∧ J (i + 1) (stored kvs k vv)) vv s₂) E' s'') E' s'
        else TEnd h₀ L m { s with heap := h, toks := tk } ((I, oI) :: (C, oC) :: (D, oD) :: news) (fun _ => J (i + 1) kvs) Value.none s') E' { s with heap := h, toks := tk }

theorem block_D {kx vx ct iter : PySem.Expr} {x : Str} {px : Pos} {scope : Scope} {cl : List (Str × Addr)} {pos : Pos} {s₂ : Shared} {I : Addr} {fp : List Addr} {n : Nat} {P : Nat → Value → Prop} {St : Nat → Heap → Prop} {news : List (Addr × Obj)}
    {RR : Value → Addr → Result → Shared → Prop} (J : Nat → List (K × Value) → Prop)
    (W : Walks prog w A I fp [I] n P St) (hsz : n ≤ sizeLine) (hIo : ∀ i h, St i h → ∃ o, h.get? I = some o) (hSt : StOk h₀ L I news St)
    (hcell : ∀ y ∈ scope.names, y.2 ≠ .cell) (hkind : scope.kind = .function) (hx : scope.names.lookup x = some .local) (hst : St 0 s₂.heap) (hfp : ∀ b ∈ fp, b < s₂.heap.objs.size)
    (F : Fr h₀ L s₂.heap m) (N : News h₀ L s₂.heap news) (hIL : L ≠ I) (hI₀ : h₀.get? I = none) (off : ∀ p ∈ news, p.1 ≠ I)
    (h0 : J 0 []) (hJl : ∀ i kvs, J i kvs → kvs.length ≤ i) (turn : DTurn prog w A h₀ L m env ct kx vx x scope cl s₂ news knd P n J)
    (hRR : ∀ D oD kvs C h tk m', (@LT.lt Nat _ L D) → Fr h₀ L h m → News h₀ L h ((D, oD) :: news) → oD.IsDictOf knd kvs → LCg.Off1 D news → h.Ns C m' → h₀.get? C = none → C ≠ L → C ≠ D → (∀ p ∈ news, p.1 ≠ C) → J n kvs → RR (.ref D) C (.ok .next) { s₂ with heap := h, toks := tk }) :
    wpAny (model prog w) A newDict (fun acc s₃ => wpAny (model prog w) A (newFunctionEnv scope env.globals cl [] env.qual none .none (some env)) (fun cenv s₄ =>
      codeAny (model prog w) A (.compStart (.DictComp kx vx [⟨.Name x px, iter, [ct], 0⟩] scope pos) 0 (.ref I) acc { cenv with scope := relabel scope env }) (RR acc cenv.locals) s₄) E s₃) E s₂ := by
  refine wpAny_newObj_type (wpAny_newFunctionEnv hcell (by intro y hy; simp at hy) (fun h₁ hns₁ hsb₁ => ?_) hkind)
  dsimp only at hns₁ hsb₁ ⊢
  have hnew : (s₂.heap.push { cls := .type "dict", dict := none, data := .dict #[] }).DictOf knd s₂.heap.objs.size [] := Heap.DictOf.new s₂.heap
  generalize hH2 : s₂.heap.push { cls := .type "dict", dict := none, data := .dict #[] } = H2 at hns₁ hsb₁ hnew ⊢
  have hC : H2.objs.size = s₂.heap.objs.size + 1 := by rw [← hH2, Heap.size_push]
  have hDC : s₂.heap.objs.size ≠ H2.objs.size := by rw [hC]; exact Nat.ne_of_lt (Nat.lt_succ_self _)
  have below : ∀ b, b < s₂.heap.objs.size → b ≠ H2.objs.size ∧ b ≠ s₂.heap.objs.size := fun b hb => ⟨by rw [hC]; exact Nat.ne_of_lt (Nat.lt_succ_of_lt hb), Nat.ne_of_lt hb⟩
  have hDf : s₂.heap.objs.size ∉ fp := fun hm => Nat.lt_irrefl _ (hfp _ hm)
  have hCf : H2.objs.size ∉ fp := fun hm => by have := hfp _ hm; rw [hC] at this; exact Nat.lt_irrefl _ (Nat.lt_of_succ_lt this)
  have hIf : I ∈ fp := W.sub I (List.mem_singleton.mpr rfl)
  have hIlt : I < s₂.heap.objs.size := hfp I hIf
  have old : ∀ b o, s₂.heap.get? b = some o → h₁.get? b = some o := fun b o e => hsb₁.extBut b o (below b (Heap.lt_size e)).1 (Heap.get?_push_of_some _ (hH2 ▸ Heap.get?_push_of_some _ e))
  have hacc : h₁.DictOf knd s₂.heap.objs.size [] := hnew.at fun o e => hsb₁.extBut _ _ hDC (Heap.get?_push_of_some _ e)
  obtain ⟨oD₀, hoD₀, hdD₀⟩ := Heap.dictOf_iff.mp hacc
  have hst₁ : St 0 h₁ := W.frame _ _ _ hst fun b _ o e => old b o e
  have fresh : ∀ a, s₂.heap.objs.size ≤ a → s₂.heap.get? a = none := fun a ha => by
    cases e : s₂.heap.get? a with
    | none => rfl
    | some o' => exact absurd (Heap.lt_size e) (Nat.not_lt.mpr ha)
  have fresh₀ : ∀ a, s₂.heap.objs.size ≤ a → h₀.get? a = none := fun a ha => by
    cases e : h₀.get? a with
    | none => rfl
    | some o' => have := F.keep a o' e; rw [fresh a ha] at this; cases this
  have hD₀ : h₀.get? s₂.heap.objs.size = none := fresh₀ _ (Nat.le_refl _)
  have hC₀ : h₀.get? H2.objs.size = none := fresh₀ _ (by rw [hC]; exact Nat.le_succ _)
  have hLlt : L < s₂.heap.objs.size := F.ns.lt
  have hDL : s₂.heap.objs.size ≠ L := Ne.symm (below L hLlt).2
  have hCL : H2.objs.size ≠ L := Ne.symm (below L hLlt).1
  have hCI : I ≠ H2.objs.size := (below I hIlt).1
  have hDI : I ≠ s₂.heap.objs.size := (below I hIlt).2
  have off₀ : LCg.Off3 I H2.objs.size s₂.heap.objs.size news := LCg.Off3.of fun p hp => ⟨off p hp, (below _ (Heap.lt_size (N p hp).1)).1, (below _ (Heap.lt_size (N p hp).1)).2⟩
  have off3 := off₀.mem
  have loop : ∀ s₃ : Shared, s₃ = { s₂ with heap := h₁, toks := s₂.toks + ([] : List (Str × Value)).length } →
      codeAny (model prog w) A (.compLoop (.DictComp kx vx [⟨.Name x px, iter, [ct], 0⟩] scope pos) 0 (.ref I) (.ref s₂.heap.objs.size) (compEnvC scope cl H2.objs.size env))
        (RR (.ref s₂.heap.objs.size) H2.objs.size) s₃ := by
    rintro s₃ rfl
    refine codeAny_compLoop_testsD
      (fun k s' => ∃ h' tk i kvs oD m', s' = { s₂ with heap := h', toks := tk } ∧ i ≤ n ∧ k = n + 1 - i ∧ J i kvs ∧ oD.IsDictOf knd kvs ∧ St i h' ∧ Fr h₀ L h' m ∧ h'.Ns H2.objs.size m' ∧ News h₀ L h' ((s₂.heap.objs.size, oD) :: news)) ?_ (n + 1)
      ⟨h₁, _, 0, [], oD₀, _, rfl, Nat.zero_le _, rfl, h0, hdD₀, hst₁, F.keeps old, hns₁, fun p hp => ?_⟩
    · intro k s' hq0
      refine ex6 hq0 fun h' tk i kvs oD m' hq => ?_
      have qb0 := hq.1
      have hi := hq.2.1
      have qb2 := hq.2.2.1
      have hJ := hq.2.2.2.1
      have hdD := hq.2.2.2.2.1
      have hst' := hq.2.2.2.2.2.1
      have F' := hq.2.2.2.2.2.2.1
      have hn' := hq.2.2.2.2.2.2.2.1
      have N' := hq.2.2.2.2.2.2.2.2
      clear hq hq0
      subst qb0
      subst qb2
      by_cases hlt : i < n
      · refine W.item i _ _ _ hlt hst' fun v h₂ tk₂ hPv hst₂ hk₂ => ?_
        refine wpAny_assign_Name (wpAny_storeName_local (lookup_relabel_local hx) (hn'.at' fun o e => hk₂ _ o (by simpa using Ne.symm hCI) e) (fun h₃ hn₃ hs₃ => ?_) (by simp [compEnvC, relabel, hkind]))
        refine wpAny_tests_one ?_
        have hst₃ : St (i + 1) h₃ := W.frame _ _ _ hst₂ fun b hb o e => hs₃.extBut b o (fun q => hCf (by have q' : b = H2.objs.size := q; rw [← q']; exact hb)) e
        obtain ⟨oI, heI⟩ := hIo _ _ hst₃
        obtain ⟨oC, heC, hoC⟩ := LCg.ns_obj hn₃
        have F₃ : Fr h₀ L h₃ m := (LCg.fr_but F' hk₂ hIL hI₀).change hs₃ hCL hC₀
        have N₂ : News h₀ L h₂ ((s₂.heap.objs.size, oD) :: news) := LCg.news_but N' hk₂ fun p hp => by
          rcases List.mem_cons.mp hp with rfl | hp
          · exact Ne.symm hDI
          · exact (off3 p hp).1
        have N₃ : News h₀ L h₃ ((I, oI) :: (H2.objs.size, oC) :: (s₂.heap.objs.size, oD) :: news) := fun p hp => by
          rcases List.mem_cons.mp hp with rfl | hp
          · exact ⟨heI, Ne.symm hIL, hI₀⟩
          · rcases List.mem_cons.mp hp with rfl | hp
            · exact ⟨heC, hCL, hC₀⟩
            · have z := N₂ p hp
              refine ⟨hs₃.extBut _ _ ?_ z.1, z.2⟩
              rcases List.mem_cons.mp hp with rfl | hp
              · exact hDC
              · exact (off3 p hp).2.1
        refine wpAny_mono (turn i v I oI H2.objs.size oC s₂.heap.objs.size oD kvs _ h₃ _ _ hlt hPv hJ hdD hoC (by simp) F₃ N₃ off₀ ⟨hCI, hDI, Ne.symm hDC⟩) (fun ok s₄ h₄ => ?_) fun _ _ e => e
        cases ok with
        | true =>
          simp only [if_true] at h₄ ⊢
          refine wpAny_mono h₄ (fun kv s₅ h₅ => wpAny_mono h₅ (fun vv s₆ h₆ => ?_) fun _ _ e => e) fun _ _ e => e
          refine ex2 h₆ fun h₄ tk₄ hq => ?_
          have qb0 := hq.1
          have F₄ := hq.2.1
          have N₄ := hq.2.2.1
          have qt := hq.2.2.2
          clear hq h₆
          subst qb0
          obtain ⟨kk, hkk, hJ'⟩ := qt
          have zI := (N₄ (I, oI) List.mem_cons_self).1
          have zC := (N₄ (H2.objs.size, oC) (List.mem_cons_of_mem _ List.mem_cons_self)).1
          have zD := (N₄ (s₂.heap.objs.size, oD) (List.mem_cons_of_mem _ (List.mem_cons_of_mem _ List.mem_cons_self))).1
          have N₄' : News h₀ L h₄ news := fun p hp => N₄ p (List.mem_cons_of_mem _ (List.mem_cons_of_mem _ (List.mem_cons_of_mem _ hp)))
          have hst₄ : St (i + 1) h₄ := hSt _ _ _ _ hst₃ heI zI F₄.keep N₄'
          refine wpAny_dictSet_pairs (hsz := Nat.le_trans (hJl i kvs hJ) (Nat.le_trans hi hsz)) hkk (Heap.dictOf_iff.mpr ⟨oD, zD, hdD⟩) fun h₆ hl₆ hs₆ => ?_
          obtain ⟨oD', hoD', hdD'⟩ := Heap.dictOf_iff.mp hl₆
          refine ⟨n + 1 - (i + 1), dec_lt (by assumption), h₆, _, i + 1, _, oD', _, rfl, hlt, rfl, hJ', hdD', W.frame _ _ _ hst₄ fun b hb o e => hs₆.extBut b o (fun q => hDf (q ▸ hb)) e, F₄.change hs₆ hDL hD₀,
            (hoC.ns zC).sameBut hs₆ (Ne.symm hDC), fun p hp => ?_⟩
          rcases List.mem_cons.mp hp with rfl | hp
          · exact ⟨hoD', hDL, hD₀⟩
          · exact ⟨hs₆.extBut _ _ (off3 p hp).2.2 (N₄' p hp).1, (N₄' p hp).2⟩
        | false =>
          simp only [Bool.false_eq_true, if_false] at h₄ ⊢
          obtain ⟨h₅, tk₄, rfl, F₄, N₄, hJ'⟩ := h₄
          have zI := (N₄ (I, oI) List.mem_cons_self).1
          have zC := (N₄ (H2.objs.size, oC) (List.mem_cons_of_mem _ List.mem_cons_self)).1
          have N₄' : News h₀ L h₅ news := fun p hp => N₄ p (List.mem_cons_of_mem _ (List.mem_cons_of_mem _ (List.mem_cons_of_mem _ hp)))
          have hst₄ : St (i + 1) h₅ := hSt _ _ _ _ hst₃ heI zI F₄.keep N₄'
          refine ⟨n + 1 - (i + 1), dec_lt (by assumption), h₅, tk₄, i + 1, kvs, oD, _, rfl, hlt, rfl, hJ', hdD, hst₄, F₄, hoC.ns zC, fun p hp => ?_⟩
          rcases List.mem_cons.mp hp with rfl | hp
          · exact N₄ _ (List.mem_cons_of_mem _ (List.mem_cons_of_mem _ List.mem_cons_self))
          · exact N₄' p hp
      · obtain rfl : i = n := Nat.le_antisymm hi (Nat.not_lt.mp hlt)
        refine W.done _ _ _ hst' fun h₂ tk₂ hk₂ => ?_
        exact hRR _ oD kvs _ h₂ tk₂ _ hLlt (LCg.fr_but F' hk₂ hIL hI₀) (LCg.news_but N' hk₂ fun p hp => by
          rcases List.mem_cons.mp hp with rfl | hp
          · exact Ne.symm hDI
          · exact (off3 p hp).1) hdD off₀.one (hn'.at' fun o e => hk₂ _ o (by simpa using Ne.symm hCI) e) hC₀ hCL (Ne.symm hDC) (fun p hp => (off3 p hp).2.1) hJ
    · rcases List.mem_cons.mp hp with rfl | hp
      · exact ⟨hoD₀, hDL, hD₀⟩
      · exact ⟨old _ _ (N p hp).1, (N p hp).2⟩
  exact codeAny_compStart_dict (loop _ rfl) (W.self 0 _ _ _ hst₁ (loop _ rfl))

/-- the source's iterator stands: what a dict comprehension needs -/
noncomputable abbrev DAtB {K : Type} [DecidableEq K] {prog : Program} {w : World} (knd : KeyKind prog w K) (A : Around) (h₀ : Heap) (m : Str → Option Value) (env : Env) (ct kx vx : PySem.Expr) (x : Str) (scope : Scope) (cl : List (Str × Addr)) (Q : Value → Shared → Prop) (it : Value) (s₂ : Shared) : Prop :=
  ∃ (I : Addr) (fp : List Addr) (n : Nat) (P : Nat → Value → Prop) (St : Nat → Heap → Prop) (news : List (Addr × Obj)) (J : Nat → List (K × Value) → Prop),
    it = .ref I ∧ Walks prog w A I fp [I] n P St ∧ n ≤ sizeLine ∧ (∀ i h, St i h → ∃ o, h.get? I = some o) ∧ StOk h₀ env.locals I news St ∧ St 0 s₂.heap ∧ (∀ b ∈ fp, b < s₂.heap.objs.size) ∧
    Fr h₀ env.locals s₂.heap m ∧ News h₀ env.locals s₂.heap news ∧ env.locals ≠ I ∧ h₀.get? I = none ∧ (∀ p ∈ news, p.1 ≠ I) ∧ J 0 [] ∧ (∀ i kvs, J i kvs → kvs.length ≤ i) ∧
    DTurn prog w A h₀ env.locals m env ct kx vx x scope cl s₂ news knd P n J ∧
    (∀ D oD kvs h tk, (@LT.lt Nat _ env.locals D) → Fr h₀ env.locals h m → News h₀ env.locals h ((D, oD) :: news) → oD.IsDictOf knd kvs → LCg.Off1 D news → J n kvs → Q (.ref D) { s₂ with heap := h, toks := tk })
noncomputable def DAt (prog : Program) (w : World) (A : Around) (h₀ : Heap) (m : Str → Option Value) (env : Env) (ct kx vx : PySem.Expr) (x : Str) (scope : Scope) (cl : List (Str × Addr)) (Q : Value → Shared → Prop) (it : Value) (s₂ : Shared) : Prop :=
  ∃ (K : Type) (_ : DecidableEq K) (knd : KeyKind prog w K), DAtB knd A h₀ m env ct kx vx x scope cl Q it s₂

theorem DictComp_D {kx vx ct iter : PySem.Expr} {x : Str} {px : Pos} {scope : Scope} {cl : List (Str × Addr)} {pos : Pos} {Q : Value → Shared → Prop} (_F : Fr h₀ env.locals s.heap m := by k_asm)
    (hclos : closureFor scope env = pure cl := by with_unfolding_all rfl) (hcell : ∀ y ∈ scope.names, y.2 ≠ .cell := by decide) (hkind : scope.kind = .function := by rfl)
    (hnames : ∀ y ∈ scope.names, y.2 = .local → scope.names.lookup y.1 = some .local := by decide) (hx : scope.names.lookup x = some .local := by rfl)
    (h : wpAny (model prog w) A (eval iter env) (fun xv s₁ => Hold (wpAny (model prog w) A (pyIter xv) (DAt prog w A h₀ m env ct kx vx x scope cl Q) E s₁)) E s)
    (hs : ∀ x, foldedSetIterable iter env x = pure x := by intro _; rfl) :
    wpAny (model prog w) A (eval (.DictComp kx vx [⟨.Name x px, iter, [ct], 0⟩] scope pos) env) Q E s := by
  rw [arm_eval_DictComp]
  refine wpAny_comprehension_free (use := none) rfl hs hclos hkind hnames (wpAny_mono h (fun xv s₁ h₁ => wpAny_mono h₁ (fun it s₂ h₂ => ?_) fun _ _ e => e) fun _ _ e => e)
  obtain ⟨K, hK, knd, hb⟩ := h₂
  refine ex7 hb fun I fp n P St news J hq => ?_
  have qr := hq.1
  have W := hq.2.1
  have hsz := hq.2.2.1
  have hIo := hq.2.2.2.1
  have hSt := hq.2.2.2.2.1
  have hst := hq.2.2.2.2.2.1
  have hfp := hq.2.2.2.2.2.2.1
  have F := hq.2.2.2.2.2.2.2.1
  have N := hq.2.2.2.2.2.2.2.2.1
  have hIL := hq.2.2.2.2.2.2.2.2.2.1
  have hI₀ := hq.2.2.2.2.2.2.2.2.2.2.1
  have off := hq.2.2.2.2.2.2.2.2.2.2.2.1
  have h0 := hq.2.2.2.2.2.2.2.2.2.2.2.2.1
  have hJl := hq.2.2.2.2.2.2.2.2.2.2.2.2.2.1
  have turn := hq.2.2.2.2.2.2.2.2.2.2.2.2.2.2.1
  have fin := hq.2.2.2.2.2.2.2.2.2.2.2.2.2.2.2
  clear hq hb
  subst qr
  refine block_D (knd := knd) (RR := fun acc C => compPost (model prog w) A E none Q acc C) J W hsz hIo hSt hcell hkind hx hst hfp F N hIL hI₀ off h0 hJl turn ?_
  intro D oD kvs C h' tk m' hLD F' N' hd o1 hn hC₀ hCL hCD offC hj
  refine ⟨m', hn, fun h'' hs'' => fin D oD kvs h'' _ hLD (F'.change hs'' hCL hC₀) (fun p hp => ?_) hd o1 hj⟩
  refine ⟨hs''.extBut _ _ ?_ (N' p hp).1, (N' p hp).2⟩
  rcases List.mem_cons.mp hp with rfl | hp
  · exact Ne.symm hCD
  · exact offC p hp

theorem iter_rangeD {ct kx vx : PySem.Expr} {x : Str} {scope : Scope} {cl : List (Str × Addr)} {Q : Value → Shared → Prop} {r : Addr} {a b : Int} {t u v : Tok} {n : Nat} {news : List (Addr × Obj)} (knd : KeyKind prog w K) (J : Nat → List (K × Value) → Prop)
    (hh : A.handled = none) (hr : IsRange s.heap r a b 1 t u v) (hsm : Builtin.Range.small a b 1 = true) (hn : Builtin.Range.rangeSize a b 1 = ((n : Nat) : Int)) (hsz : n ≤ sizeLine) (F : Fr h₀ env.locals s.heap m) (N : News h₀ env.locals s.heap news)
    (h0 : J 0 []) (hJl : ∀ i kvs, J i kvs → kvs.length ≤ i)
    (turn : ∀ s₂, (∃ h, s₂ = { s with heap := h }) → DTurn prog w A h₀ env.locals m env ct kx vx x scope cl s₂ news knd (fun i v => ∃ t, v = .int (a + (i : Int)) t) n J)
    (fin : ∀ D oD kvs h tk, (@LT.lt Nat _ env.locals D) → Fr h₀ env.locals h m → News h₀ env.locals h ((D, oD) :: news) → oD.IsDictOf knd kvs → LCg.Off1 D news → J n kvs → Q (.ref D) { s with heap := h, toks := tk }) :
    wpAny (model prog w) A (pyIter (.ref r)) (DAt prog w A h₀ m env ct kx vx x scope cl Q) E s := by
  refine wpAny_pyIter_range hr hsm ?_
  refine ⟨K, inferInstance, knd, s.heap.objs.size, _, n, _, _, news, J, rfl, LCg.range_walks hh a n, hsz, fun i h st => ⟨_, st⟩, ?_, (by show IsRangeIter _ _ _ _ _; rw [hn]; simpa using Heap.get?_push_size _ rfl), (fun b hb => ?_), F.keeps fun _ _ e => Heap.get?_push_of_some _ e, N.grown fun _ _ e => Heap.get?_push_of_some _ e, Nat.ne_of_lt F.ns.lt, none_ge F (Nat.le_refl _), (fun p hp => Nat.ne_of_lt (Heap.lt_size (N p hp).1)), h0, hJl, turn _ ⟨_, rfl⟩, fin⟩
  · intro i h h' o st e e' k N
    exact LCg.range_st (h₀ := h₀) i h h' o _ st e e' k N trivial
  · rw [List.mem_singleton.mp hb]
    show s.heap.objs.size < (s.heap.push _).objs.size
    rw [Heap.size_push]; exact Nat.lt_succ_self _

end
end Mine

/-! ForG -/
namespace Mine
/-- a turn's end, whatever the way out; the generators may have moved -/
noncomputable def TurnG (h₀ : Heap) (L I : Addr) (oI : Obj) (Jn : (Str → Option Value) → List (Addr × Obj) → Array GenState → Prop) (s : Shared) (Q : Flow → Shared → Prop) (f : Flow) (s₂ : Shared) : Prop :=
  match f with
  | .brk => Q .next s₂
  | .ret v => Q (.ret v) s₂
  | _ => ∃ h' gs tk m' news', s₂ = { s with heap := h', gens := gs, toks := tk } ∧ Fr h₀ L h' m' ∧ News h₀ L h' ((I, oI) :: news') ∧ (∀ p ∈ news', p.1 ≠ I) ∧ Jn m' news' gs
theorem TurnG.intro {h₀ h' : Heap} {L I : Addr} {oI : Obj} {Jn : (Str → Option Value) → List (Addr × Obj) → Array GenState → Prop} {s : Shared} {Q : Flow → Shared → Prop} {gs : Array GenState} {tk : Nat} {m' : Str → Option Value} {news' big : List (Addr × Obj)}
    (F : Fr h₀ L h' m') (N : News h₀ L h' big) (sub : ∀ p ∈ (I, oI) :: news', p ∈ big) (off : ∀ p ∈ news', p.1 ≠ I) (hj : Jn m' news' gs) : TurnG h₀ L I oI Jn s Q .next { s with heap := h', gens := gs, toks := tk } :=
  ⟨h', gs, tk, m', news', rfl, F, fun p hp => N p (sub p hp), off, hj⟩
/-- what a for loop's iterator is held to -/
noncomputable def LoopC (prog : Program) (w : World) (A : Around) (target : PySem.Expr) (body orelse : List Stmt) (env : Env) (Q : Flow → Shared → Prop) (E : Value → Shared → Prop) (it : Value) (s₂ : Shared) : Prop :=
  codeAny (model prog w) A (.forLoop target it body orelse env) (fun r s' => match r with | .ok f => Q f s' | .error e => cameBackBy (model prog w) A env E e s') s₂
section
variable {prog : Program} {w : World} {A : Around} {E : Value → Shared → Prop} {s : Shared} {env : Env} {h₀ : Heap} {target : PySem.Expr} {body orelse : List Stmt} {Q : Flow → Shared → Prop}
theorem For_C {iter : PySem.Expr} {pos : Pos} {m : Str → Option Value} (_F : Fr h₀ env.locals s.heap m)
    (h : wpAny (model prog w) A (eval iter env) (fun xv s₁ => Hold (wpAny (model prog w) A (pyIter xv) (LoopC prog w A target body orelse env Q E) E s₁)) E s)
    (hs : ∀ x, foldedSetIterable iter env x = pure x) : wpAny (model prog w) A (exec (.For target iter body orelse pos) env) Q E s := wpAny_For h hs
theorem iter_rangeG {r : Addr} {a₀ b₀ : Int} {t₀ u₀ v₀ : Tok} {n : Nat} {m₀ : Str → Option Value} {news : List (Addr × Obj)}
    (hh : A.handled = none) (hr : IsRange s.heap r a₀ b₀ 1 t₀ u₀ v₀) (hsmall : Builtin.Range.small a₀ b₀ 1 = true) (hn : Builtin.Range.rangeSize a₀ b₀ 1 = (n : Int)) (F : Fr h₀ env.locals s.heap m₀) (N : News h₀ env.locals s.heap news)
    (J : Nat → (Str → Option Value) → List (Addr × Obj) → Array GenState → Prop) (h0 : J 0 m₀ news s.gens)
    (step : ∀ i tv m₁ news₁ h gs tk I oI, i < n → J i m₁ news₁ gs → (∀ p ∈ news₁, p.1 ≠ I) → Fr h₀ env.locals h m₁ → News h₀ env.locals h ((I, oI) :: news₁) →
      wpAny (model prog w) A (assign target env (.int (a₀ + (i : Int)) tv)) (fun _ s₃ => wpAny (model prog w) A (execs body env) (TurnG h₀ env.locals I oI (J (i + 1)) s Q) E s₃) E { s with heap := h, gens := gs, toks := tk })
    (done : ∀ h' gs tk m' news', Fr h₀ env.locals h' m' → News h₀ env.locals h' news' → J n m' news' gs → wpAny (model prog w) A (execs orelse env) Q E { s with heap := h', gens := gs, toks := tk })
    (hE : PassesOwn (model prog w) A env E := by passes_own) :
    wpAny (model prog w) A (pyIter (.ref r)) (LoopC prog w A target body orelse env Q E) E s := by
  refine wpAny_pyIter_range hr hsmall ?_
  have W := LCg.range_walks (prog := prog) (w := w) (I := s.heap.objs.size) hh a₀ n
  have hI0 : h₀.get? s.heap.objs.size = none := none_ge F (Nat.le_refl _)
  have hLI : env.locals ≠ s.heap.objs.size := Nat.ne_of_lt F.ns.lt
  show codeAny _ _ _ _ _
  refine codeAny_forLoop_any
    (fun k s' => ∃ h' gs tk m' news' i, s' = { s with heap := h', gens := gs, toks := tk } ∧ IsRangeIter h' s.heap.objs.size (a₀ + (i : Nat) * 1) ((n : Int) - (i : Nat)) 1 ∧ Fr h₀ env.locals h' m' ∧ News h₀ env.locals h' news' ∧ (∀ p ∈ news', p.1 ≠ s.heap.objs.size) ∧ J i m' news' gs ∧ i ≤ n ∧ k = n + 1 - i) ?_ (n + 1)
    ⟨_, s.gens, s.toks, m₀, news, 0, rfl, (by rw [hn]; simpa using Heap.get?_push_size _ rfl), F.push _, (fun p hp => ⟨Heap.get?_push_of_some _ (N p hp).1, (N p hp).2⟩), (fun p hp => Nat.ne_of_lt (lt_of_get (N p hp).1)), h0, Nat.zero_le _, rfl⟩
  intro k s' hq0
  refine ex6 hq0 fun h' gs tk m' news' i hq => ?_
  have qb0 := hq.1
  have hst' := hq.2.1
  have F' := hq.2.2.1
  have N' := hq.2.2.2.1
  have hoff := hq.2.2.2.2.1
  have hJ := hq.2.2.2.2.2.1
  have hi := hq.2.2.2.2.2.2.1
  have qb7 := hq.2.2.2.2.2.2.2
  clear hq hq0
  subst qb0
  subst qb7
  by_cases hlt : i < n
  · refine W.item i _ _ _ hlt hst' fun v h₁ tk₁ hP hst₁ hk₁ => ?_
    obtain ⟨tv, rfl⟩ := hP
    dsimp only
    have F₁ := LCg.fr_but F' hk₁ hLI hI0
    have N₁ := LCg.news_but N' hk₁ hoff
    obtain ⟨oI, hoI⟩ : ∃ o, h₁.get? s.heap.objs.size = some o := ⟨_, hst₁⟩
    refine letGo_rangeiter hst₁ ?_
    refine wpAny_mono (step i tv m' news' h₁ gs tk₁ s.heap.objs.size oI hlt hJ hoff F₁ fun p hp => ?_) (fun _ s₃ q => wpAny_mono q (fun f s₄ q => ?_) hE) hE
    · rcases List.mem_cons.mp hp with rfl | hp
      · exact ⟨hoI, Ne.symm hLI, hI0⟩
      · exact N₁ p hp
    · have key : (∃ h' gs tk m' news', s₄ = { s with heap := h', gens := gs, toks := tk } ∧ Fr h₀ env.locals h' m' ∧ News h₀ env.locals h' ((s.heap.objs.size, oI) :: news') ∧ (∀ p ∈ news', p.1 ≠ s.heap.objs.size) ∧ J (i + 1) m' news' gs) →
          ∃ m, m < n + 1 - i ∧ ∃ h' gs tk m' news' i, s₄ = { s with heap := h', gens := gs, toks := tk } ∧ IsRangeIter h' s.heap.objs.size (a₀ + (i : Nat) * 1) ((n : Int) - (i : Nat)) 1 ∧ Fr h₀ env.locals h' m' ∧ News h₀ env.locals h' news' ∧ (∀ p ∈ news', p.1 ≠ s.heap.objs.size) ∧ J i m' news' gs ∧ i ≤ n ∧ m = n + 1 - i := by
        intro hq0
        refine ex5 hq0 fun h2 gs2 tk2 m2 news2 hq => ?_
        have e := hq.1
        have F2 := hq.2.1
        have N2 := hq.2.2.1
        have off2 := hq.2.2.2.1
        have hj := hq.2.2.2.2
        clear hq hq0
        refine ⟨n + 1 - (i + 1), dec_lt (by assumption), h2, gs2, tk2, m2, news2, i + 1, e, ?_, F2, fun p hp => N2 p (.tail _ hp), off2, hj, hlt, rfl⟩
        have h1 := (N2 _ (.head _)).1
        have h2' : h₁.get? s.heap.objs.size = some oI := hoI
        have h3 : h₁.get? s.heap.objs.size = some _ := hst₁
        show h2.get? s.heap.objs.size = some _
        rw [h1, ← h2']; exact h3
      cases f with
      | ret v => exact q
      | brk => exact q
      | next => exact key q
      | cont => exact key q
  · have hin : i = n := at_end (by assumption) (by assumption)
    subst hin
    refine W.done _ _ _ hst' fun h₁ tk₁ hk₁ => ?_
    exact wpAny_mono (done h₁ gs tk₁ m' news' (LCg.fr_but F' hk₁ hLI hI0) (LCg.news_but N' hk₁ hoff) hJ) (fun _ _ x => x) hE
theorem letGo_listiter {I l : Addr} {i : Nat} {v : Value} {Q : Unit → Shared → Prop} (hi : s.heap.IsListIter I l i) (h : Q () s) : wpAny (model prog w) A (letOwnedTupleGo target (.ref I) v) Q E s := by
  obtain ⟨⟨c, oc, dt, sl⟩, ho, h1, h2⟩ := hi
  replace h1 : c = .type "list_iterator" := h1
  replace h2 : dt = .fields #[.ref l, .int i 0] := h2
  subst h1 h2
  unfold letOwnedTupleGo
  cases target <;> first | exact wpAny_pure h | (cases v <;> first | exact wpAny_pure h | (refine wpAny_bind (wpAny_load ho ?_); exact wpAny_pure h))
theorem iter_listG {ax : Addr} {its : Array Value} {m₀ : Str → Option Value} {news : List (Addr × Obj)}
    (hh : A.handled = none) (F : Fr h₀ env.locals s.heap m₀) (N : News h₀ env.locals s.heap news)
    (J : Nat → (Str → Option Value) → List (Addr × Obj) → Array GenState → Prop) (hsrc : ∀ i m nw gs, J i m nw gs → LCg.SrcAt h₀ ax its nw) (h0 : J 0 m₀ news s.gens)
    (step : ∀ i v m₁ news₁ h gs tk I oI, its[i]? = some v → J i m₁ news₁ gs → (∀ p ∈ news₁, p.1 ≠ I) → Fr h₀ env.locals h m₁ → News h₀ env.locals h ((I, oI) :: news₁) →
      wpAny (model prog w) A (assign target env v) (fun _ s₃ => wpAny (model prog w) A (execs body env) (TurnG h₀ env.locals I oI (J (i + 1)) s Q) E s₃) E { s with heap := h, gens := gs, toks := tk })
    (done : ∀ h' gs tk m' news', Fr h₀ env.locals h' m' → News h₀ env.locals h' news' → J its.size m' news' gs → wpAny (model prog w) A (execs orelse env) Q E { s with heap := h', gens := gs, toks := tk })
    (hE : PassesOwn (model prog w) A env E := by passes_own) :
    wpAny (model prog w) A (pyIter (.ref ax)) (LoopC prog w A target body orelse env Q E) E s := by
  have hls : s.heap.IsList ax its := (hsrc _ _ _ _ h0).list F.keep N
  have hlt : ax < s.heap.objs.size := by obtain ⟨_, e, _⟩ := hls; exact Heap.lt_size e
  refine wpAny_pyIter_list hls ?_
  have W := Walks.list (prog := prog) (w := w) hh s.heap.objs.size ax (Nat.ne_of_lt hlt) its
  have hI0 : h₀.get? s.heap.objs.size = none := none_ge F (Nat.le_refl _)
  have hLI : env.locals ≠ s.heap.objs.size := Nat.ne_of_lt F.ns.lt
  have itU : ∀ {h h' : Heap} {i : Nat} {o : Obj}, h.IsListIter s.heap.objs.size ax i → h.get? s.heap.objs.size = some o → h'.get? s.heap.objs.size = some o → h'.IsListIter s.heap.objs.size ax i := by
    intro h h' i o st e e'
    obtain ⟨o', q, r⟩ := st
    rw [e] at q; cases q; exact ⟨o, e', r⟩
  show codeAny _ _ _ _ _
  refine codeAny_forLoop_any
    (fun k s' => ∃ h' gs tk m' news' i, s' = { s with heap := h', gens := gs, toks := tk } ∧ h'.IsListIter s.heap.objs.size ax i ∧ Fr h₀ env.locals h' m' ∧ News h₀ env.locals h' news' ∧ (∀ p ∈ news', p.1 ≠ s.heap.objs.size) ∧ J i m' news' gs ∧ i ≤ its.size ∧ k = its.size + 1 - i) ?_ (its.size + 1)
    ⟨_, s.gens, s.toks, m₀, news, 0, rfl, ⟨_, Heap.get?_push_size _ rfl, rfl, rfl⟩, F.push _, (fun p hp => ⟨Heap.get?_push_of_some _ (N p hp).1, (N p hp).2⟩), (fun p hp => Nat.ne_of_lt (lt_of_get (N p hp).1)), h0, Nat.zero_le _, rfl⟩
  intro k s' hq0
  refine ex6 hq0 fun h' gs tk m' news' i hq => ?_
  have qb0 := hq.1
  have hst' := hq.2.1
  have F' := hq.2.2.1
  have N' := hq.2.2.2.1
  have hoff := hq.2.2.2.2.1
  have hJ := hq.2.2.2.2.2.1
  have hi := hq.2.2.2.2.2.2.1
  have qb7 := hq.2.2.2.2.2.2.2
  clear hq hq0
  subst qb0
  subst qb7
  have hl' := (hsrc _ _ _ _ hJ).list F'.keep N'
  by_cases hlt : i < its.size
  · refine W.item i _ _ _ hlt ⟨hst', hl'⟩ fun v h₁ tk₁ hP hst₁ hk₁ => ?_
    dsimp only
    have F₁ := LCg.fr_but F' hk₁ hLI hI0
    have N₁ := LCg.news_but N' hk₁ hoff
    obtain ⟨oI, hoI, _⟩ := id hst₁.1
    refine letGo_listiter hst₁.1 ?_
    refine wpAny_mono (step i v m' news' h₁ gs tk₁ s.heap.objs.size oI hP hJ hoff F₁ fun p hp => ?_) (fun _ s₃ q => wpAny_mono q (fun f s₄ q => ?_) hE) hE
    · rcases List.mem_cons.mp hp with rfl | hp
      · exact ⟨hoI, Ne.symm hLI, hI0⟩
      · exact N₁ p hp
    · have key : (∃ h' gs tk m' news', s₄ = { s with heap := h', gens := gs, toks := tk } ∧ Fr h₀ env.locals h' m' ∧ News h₀ env.locals h' ((s.heap.objs.size, oI) :: news') ∧ (∀ p ∈ news', p.1 ≠ s.heap.objs.size) ∧ J (i + 1) m' news' gs) →
          ∃ m, m < its.size + 1 - i ∧ ∃ h' gs tk m' news' i, s₄ = { s with heap := h', gens := gs, toks := tk } ∧ h'.IsListIter s.heap.objs.size ax i ∧ Fr h₀ env.locals h' m' ∧ News h₀ env.locals h' news' ∧ (∀ p ∈ news', p.1 ≠ s.heap.objs.size) ∧ J i m' news' gs ∧ i ≤ its.size ∧ m = its.size + 1 - i := by
        intro hq0
        refine ex5 hq0 fun h2 gs2 tk2 m2 news2 hq => ?_
        have e := hq.1
        have F2 := hq.2.1
        have N2 := hq.2.2.1
        have off2 := hq.2.2.2.1
        have hj := hq.2.2.2.2
        clear hq hq0
        exact ⟨its.size + 1 - (i + 1), dec_lt (by assumption), h2, gs2, tk2, m2, news2, i + 1, e, itU hst₁.1 hoI (N2 _ (.head _)).1, F2, fun p hp => N2 p (.tail _ hp), off2, hj, hlt, rfl⟩
      cases f with
      | ret v => exact q
      | brk => exact q
      | next => exact key q
      | cont => exact key q
  · have hin : i = its.size := at_end (by assumption) (by assumption)
    subst hin
    refine W.done _ _ _ ⟨hst', hl'⟩ fun h₁ tk₁ hk₁ => ?_
    exact wpAny_mono (done h₁ gs tk₁ m' news' (LCg.fr_but F' hk₁ hLI hI0) (LCg.news_but N' hk₁ hoff) hJ) (fun _ _ x => x) hE
/-- an append to a list of the ledger -/
theorem append_own {h₀ : Heap} {L d : Addr} {m : Str → Option Value} {news : List (Addr × Obj)} {g : Obj → List (Addr × Obj)} {vs : List Value} {v : Value} {Q : Value → Shared → Prop} (F : Fr h₀ L s.heap m := by k_asm) (N : News h₀ L s.heap news := by k_asm) (U : UpdF d (LCg.lst vs) news g := by k_updF)
    (hsz : vs.length ≤ sizeLine := by assumption) (h : ∀ h', Fr h₀ L h' m → News h₀ L h' (g (LCg.lst (vs ++ [v]))) → Q .none { s with heap := h' }) : wpAny (model prog w) A (call (.builtin "list.append") [.ref d, v]) Q E s := by
  obtain ⟨own, rest, rfl, hg, h1, h2⟩ := U.split
  have hmem := N (d, LCg.lst vs) (List.mem_append_right _ (.head _))
  refine append_at (hsz := by show vs.toArray.size ≤ _; rw [List.size_toArray]; exact hsz) hmem.1 fun h' hs ho' => ?_
  refine h h' ⟨F.ns.sameBut hs (Ne.symm hmem.2.1), fun b ob e => (hs.2 b (fun q => ?_)).trans (F.keep b ob e), F.above⟩ ((hg _) ▸ N.setAt h1 h2 hs (ho'.trans (congrArg some (LCg.lst_snoc vs v))))
  rw [q, hmem.2.2] at e; cases e
noncomputable abbrev lstN (vs : List Value) (n : Nat) : Obj := { cls := .type "list", data := .seq vs.toArray n }
theorem append_ownN {h₀ : Heap} {L d : Addr} {m : Str → Option Value} {news : List (Addr × Obj)} {g : Obj → List (Addr × Obj)} {vs : List Value} {n : Nat} {v : Value} {Q : Value → Shared → Prop} (F : Fr h₀ L s.heap m := by k_asm) (N : News h₀ L s.heap news := by k_asm) (U : UpdF d (lstN vs n) news g := by first | k_updF | exact UpdF.head (by assumption))
    (hsz : vs.length ≤ sizeLine := by assumption) (h : ∀ h', Fr h₀ L h' m → News h₀ L h' (g (lstN (vs ++ [v]) (n + 1))) → Q .none { s with heap := h' }) : wpAny (model prog w) A (call (.builtin "list.append") [.ref d, v]) Q E s := by
  obtain ⟨own, rest, rfl, hg, h1, h2⟩ := U.split
  have hmem := N (d, lstN vs n) (List.mem_append_right _ (.head _))
  refine append_at (hsz := by show vs.toArray.size ≤ _; rw [List.size_toArray]; exact hsz) hmem.1 fun h' hs ho' => ?_
  have e : ({ cls := .type "list", data := .seq (vs.toArray.push v) (n + 1) } : Obj) = lstN (vs ++ [v]) (n + 1) := by rw [List.push_toArray]
  refine h h' ⟨F.ns.sameBut hs (Ne.symm hmem.2.1), fun b ob e => (hs.2 b (fun q => ?_)).trans (F.keep b ob e), F.above⟩ ((hg _) ▸ N.setAt h1 h2 hs (ho'.trans (congrArg some e)))
  rw [q, hmem.2.2] at e; cases e
/-- the same where the list stands first in the ledger -/
theorem append_head {h₀ : Heap} {L d : Addr} {m : Str → Option Value} {own : List (Addr × Obj)} {vs : List Value} {v : Value} {Q : Value → Shared → Prop} (F : Fr h₀ L s.heap m := by k_asm) (N : News h₀ L s.heap ((d, LCg.lst vs) :: own) := by k_asm) (off : ∀ p ∈ own, p.1 ≠ d := by assumption)
    (hsz : vs.length ≤ sizeLine := by assumption) (h : ∀ h', Fr h₀ L h' m → News h₀ L h' ((d, LCg.lst (vs ++ [v])) :: own) → Q .none { s with heap := h' }) : wpAny (model prog w) A (call (.builtin "list.append") [.ref d, v]) Q E s :=
  append_own F N (UpdF.head off) hsz h
end
end Mine

/-! GenSeg -/
namespace Mine
section
variable {M : Model} {A : Around} {R : GenEnd} {Y : Protocol} {n : Nat} {s₀ : Shared} {c : Code} {fs : List Frame} {s : Shared} {env : Env}
  {K : Flow → Sem Fin} {H : Value → Sem Fin} {gd : Bool → Bool} {lv : List Value → List Value}
/-- nothing is raised -/
noncomputable abbrev NoE : Value → Shared → Prop := fun _ _ => False
theorem seg_stmt {st : Stmt} (h : wpAny M (A.over c fs) (exec st env) (fun f s' => Seg M A R Y n s₀ c (K f) fs s') NoE s) : Seg M A R Y n s₀ c ((exec st env).wrap K H gd lv) fs s :=
  seg_wrap (wpAny_mono h (fun _ _ x => x) fun _ _ x => x.elim)
theorem seg_If {test : PySem.Expr} {body orelse : List Stmt} {pos : Pos}
    (h : wpAny M (A.over c fs) (isTrue test env (eval test env)) (fun b s' => if b = true then Seg M A R Y n s₀ c ((execs body env).wrap K H gd lv) fs s' else Seg M A R Y n s₀ c ((execs orelse env).wrap K H gd lv) fs s') NoE s) :
    Seg M A R Y n s₀ c ((exec (.If test body orelse pos) env).wrap K H gd lv) fs s := by
  rw [exec_If]
  show Seg _ A R Y n s₀ _ (.at pos fun _ => (isTrue test env (eval test env) >>= fun b => if b = true then execs body env else execs orelse env).wrap K H gd lv) fs s
  refine seg_at (seg_bind_wrap (wpAny_mono h (fun b s' hb => ?_) fun _ _ x => x.elim))
  cases b with
  | true => rw [if_pos rfl] at hb ⊢; exact hb
  | false => rw [if_neg Bool.false_ne_true] at hb ⊢; exact hb
/-- the frame that waits while a for loop runs -/
noncomputable abbrev kFor (env : Env) (K : Flow → Sem Fin) (H : Value → Sem Fin) (gd : Bool → Bool) (lv : List Value → List Value) (r : Result) : Sem Fin :=
  ((match r with | .ok f => (.pure f : Sem Flow) | .error e => .raise e).onRaise fun (x : Value) => do
        if (← field x 1) == Value.none then unsupported "frame.own-activation:exception-without-traceback"
        setFlight x env.frame).wrap K H gd lv
theorem seg_For {target iter : PySem.Expr} {body orelse : List Stmt} {pos : Pos} (hs : ∀ x, foldedSetIterable iter env x = pure x)
    (h : wpAny M (A.over c fs) (eval iter env) (fun xv s₁ => wpAny M (A.over c fs) (pyIter xv) (fun it s₂ => ∀ p, Seg M A R Y n s₀ (.forLoop target it body orelse env) (M.den (.forLoop target it body orelse env))
      (.ret (kFor env K H gd lv) none (gd false) (lv []) c p [] :: fs) s₂) NoE s₁) NoE s) :
    Seg M A R Y n s₀ c ((exec (.For target iter body orelse pos) env).wrap K H gd lv) fs s := by
  rw [exec_For]
  show Seg _ A R Y n s₀ _ (.at pos fun _ => (eval iter env >>= fun x => foldedSetIterable iter env x >>= fun x => standAt iter.pos >>= fun _ => holding [x] (pyIter x) >>= fun it => runOwn (.forLoop target it body orelse env) env).wrap K H gd lv) fs s
  refine seg_at (seg_bind_wrap (wpAny_mono h (fun x s' hx => ?_) fun _ _ x => x.elim))
  refine seg_bind_wrap (wpAny_of_eq (hs x) ?_)
  refine seg_bind_wrap (wpAny_standAt ?_)
  refine seg_bind_wrap (wpAny_holding (wpAny_mono hx (fun it s₂ h₂ => ?_) fun _ _ x => x.elim))
  exact seg_call h₂
end
section
variable {prog : Program} {w : World} {A : Around} {R : GenEnd} {Y : Protocol} {n : Nat} {s₀ : Shared} {fs : List Frame} {s : Shared} {env : Env}
noncomputable abbrev hTree (env : Env) : Value → Sem Fin := fun e => (do noteFrame e env; theTreesLotGoes e : Sem Unit).wrap (fun _ => .raise e) .raise id id
theorem seg_block {body : List Stmt} (h : Seg (model prog w) A R Y n s₀ (.block body env) ((execs body env).wrap (fun f => .pure (.done f)) (hTree env) id id) fs s) :
    Seg (model prog w) A R Y n s₀ (.block body env) ((model prog w).den (.block body env)) fs s := by
  show Seg _ A R Y n s₀ _ ((execs body env).onRaise (fun x => do noteFrame x env; theTreesLotGoes x) >>= fun f => pure (.done f)) fs s
  rw [Sem.onRaise_eq_wrap, Sem.bind_eq_wrap', Sem.wrap_wrap]
  rw [Sem.wrap_congr (execs body env) _ _ (K' := fun f => (.pure (.done f) : Sem Fin)) (H' := hTree env) (fun f => by rfl)
        (fun e => by rw [Sem.bind_eq_wrap, Sem.wrap_wrap]; rfl)]
  exact h
theorem seg_forLoop {target : PySem.Expr} {it : Value} {body orelse : List Stmt}
    (h : wpAny (model prog w) (A.over (.forLoop target it body orelse env) fs) (pyNext it) (fun r s₁ => match r with
      | none => Seg (model prog w) A R Y n s₀ (.block orelse env) ((model prog w).den (.block orelse env)) fs s₁
      | some v => wpAny (model prog w) (A.over (.forLoop target it body orelse env) fs) (letOwnedTupleGo target it v) (fun _ s₂ =>
          wpAny (model prog w) (A.over (.forLoop target it body orelse env) fs) (assign target env v) (fun _ s₃ =>
            Seg (model prog w) A R Y n s₀ (.forLoop target it body orelse env) ((execs body env).wrap (fun f => match f with
              | .next | .cont => .pure (.again (.forLoop target it body orelse env))
              | .brk => .pure (.done .next)
              | .ret v => .pure (.done (.ret v))) (hTree env) id id) fs s₃) NoE s₂) NoE s₁) NoE s) :
    Seg (model prog w) A R Y n s₀ (.forLoop target it body orelse env) ((model prog w).den (.forLoop target it body orelse env)) fs s := by
  show Seg _ A R Y n s₀ _ ((forTurn target it body orelse env).onRaise (fun x => do noteFrame x env; theTreesLotGoes x)) fs s
  rw [Sem.onRaise_eq_wrap]
  unfold forTurn
  refine seg_bind_wrap (wpAny_standAt ?_)
  refine seg_bind_wrap (wpAny_onRaise (wpAny_mono h (fun r s₁ h₁ => ?_) fun _ _ x => x.elim))
  cases r with
  | none => exact seg_again rfl h₁
  | some v =>
    refine seg_bind_wrap (wpAny_mono h₁ (fun _ s₂ h₂ => ?_) fun _ _ x => x.elim)
    refine seg_bind_wrap (wpAny_mono h₂ (fun _ s₃ h₃ => ?_) fun _ _ x => x.elim)
    rw [Sem.bind_eq_wrap', Sem.wrap_wrap]
    rw [Sem.wrap_congr (execs body env) _ _ (K' := fun f => match f with
            | .next | .cont => .pure (.again (.forLoop target it body orelse env))
            | .brk => .pure (.done .next)
            | .ret v => .pure (.done (.ret v))) (H' := hTree env)
        (fun f => by cases f <;> rfl)
        (fun e => by first | exact Sem.bind_eq_wrap _ _ | (show (do noteFrame e env; theTreesLotGoes e : Sem Unit).bind (fun _ => .raise e) = _; rw [Sem.bind_eq_wrap]))]
    exact h₃
end
end Mine

/-! GenLoop -/
namespace Mine
/-- a run of the generator's leaves all that stood when it was made, its frame aside -/
noncomputable def KeptG (g₁ : Nat) (Lg : Addr) (s₀ s₁ : Shared) : Prop := ∃ h' tk, s₁ = { s₀ with heap := h', toks := tk } ∧ ∀ (b : Addr) o, (@LT.lt Nat _ b g₁) → b ≠ Lg → s₀.heap.get? b = some o → h'.get? b = some o
theorem KeptG.refl (g₁ : Nat) (Lg : Addr) (s : Shared) : KeptG g₁ Lg s s := ⟨_, _, rfl, fun _ _ _ _ e => e⟩
theorem KeptG.step {g₁ : Nat} {Lg : Addr} {s₀ s₁ : Shared} {h' : Heap} {tk : Nat} (x : KeptG g₁ Lg s₀ s₁) (k : ∀ (b : Addr) o, (@LT.lt Nat _ b g₁) → b ≠ Lg → s₁.heap.get? b = some o → h'.get? b = some o) : KeptG g₁ Lg s₀ { s₁ with heap := h', toks := tk } := by
  obtain ⟨h₁, tk₁, rfl, k₁⟩ := x
  exact ⟨h', tk, rfl, fun b o hb hL e => k b o hb hL (k₁ b o hb hL e)⟩
noncomputable def rG (g₁ : Nat) (Lg : Addr) : GenEnd := fun n s₀ r s₁ => r = .ok (.ret .none) ∧ (n = 0 ∧ KeptG g₁ Lg s₀ s₁)
/-- what is given out: the pair of the list that stands in its turn -/
noncomputable def yG (hb : Heap) (g₁ : Nat) (Lg : Addr) (all : List (Int × Str)) : Protocol := fun m s₀ v s kap =>
  ∃ (T : Addr) (oT : Obj) (t1 t2 : Tok) (p : Int) (x : Str) (gl : List (Addr × Obj)), v = .ref T ∧ all[all.length - 1 - m]? = some (p, x) ∧ (T, oT) ∈ gl ∧ (oT.cls = .type "tuple" ∧ ∃ n, oT.data = .seq #[.int p t1, .str x t2] n) ∧
    (∀ q ∈ gl, (@LE.le Nat _ Lg q.1) ∧ s.heap.get? q.1 = some q.2) ∧ KeptG g₁ Lg s₀ s ∧
    ∀ s'' : Shared, (∀ q ∈ gl, s''.heap.get? q.1 = some q.2) → (∀ b o, hb.get? b = some o → s''.heap.get? b = some o) → kap (.send .none) s''
/-- the generator is ready to run on -/
noncomputable def GGo (prog : Program) (w : World) (A : Around) (hb : Heap) (g₁ : Nat) (Lg : Addr) (all : List (Int × Str)) (γ : GenState) (n : Nat) (gl : List (Addr × Obj)) : Prop :=
  ∀ s'' : Shared, (∀ q ∈ gl, s''.heap.get? q.1 = some q.2) → (∀ b o, hb.get? b = some o → s''.heap.get? b = some o) → γ.Goes (model prog w) A.in1 (rG g₁ Lg) (yG hb g₁ Lg all) n (.send .none) s''
noncomputable def GenObjIs (o : Obj) (g : Nat) : Prop := o.cls = .type "generator" ∧ (∃ nm qn, o.data = .fields #[.int g 0, nm, qn]) ∧ o.slots = #[]
theorem push_set {α : Type} (a : Array α) (x y : α) : (a.push x).setIfInBounds a.size y = a.push y := by
  apply Array.ext
  · simp
  · intro i h1 h2
    by_cases e : i = a.size
    · subst e; simp
    · rw [Array.getElem_setIfInBounds (by simpa using h1)]
      have hlt : i < a.size := by simp at h2; omega
      simp [Array.getElem_push, Ne.symm e, hlt]
section
variable {prog : Program} {w : World} {A : Around} {E : Value → Shared → Prop} {s : Shared} {env : Env} {hb : Heap} {target : PySem.Expr} {body orelse : List Stmt} {Q : Flow → Shared → Prop}
theorem letGo_gen {a : Addr} {oa : Obj} {g : Nat} {v : Value} {Q : Unit → Shared → Prop} (ho : s.heap.get? a = some oa) (hg : GenObjIs oa g) (h : Q () s) : wpAny (model prog w) A (letOwnedTupleGo target (.ref a) v) Q E s := by
  obtain ⟨c, oc, dt, sl⟩ := oa
  obtain ⟨h1, ⟨nm, qn, h2⟩, h3⟩ := hg
  replace h1 : c = .type "generator" := h1
  replace h2 : dt = .fields #[.int g 0, nm, qn] := h2
  subst h1 h2
  unfold letOwnedTupleGo
  cases target <;> first | exact wpAny_pure h | (cases v <;> first | exact wpAny_pure h | (refine wpAny_bind (wpAny_load ho ?_); exact wpAny_pure h))
/-- a turn's end: the generator's own things still stand -/
noncomputable def TurnY (hb : Heap) (L g₁ Lg a : Addr) (oa : Obj) (gl : List (Addr × Obj)) (Jn : (Str → Option Value) → List (Addr × Obj) → Prop) (s₁ : Shared) (f : Flow) (s₂ : Shared) : Prop :=
  f = .next ∧ ∃ h' tk m' news', s₂ = { s₁ with heap := h', toks := tk } ∧ Fr hb L h' m' ∧ News hb L h' (gl ++ (a, oa) :: news') ∧ (∀ p ∈ news', (@LT.lt Nat _ p.1 Lg)) ∧ Jn m' news'
theorem iter_gen {a Lg : Addr} {g₁ : Nat} {oa : Obj} {γ : GenState} {gl : List (Addr × Obj)} {all : List (Int × Str)} {m₀ : Str → Option Value} {news : List (Addr × Obj)} {gs0 : Array GenState}
    (hh : A.handled = none) (hroom : A.depth < recursionLimit) (hlim : hb.NoLimit) (hLL : @LT.lt Nat _ env.locals Lg) (hLg : @LT.lt Nat _ Lg g₁) (hγ : s.gens = gs0.push γ) (hgo : GGo prog w A hb g₁ Lg all γ all.length gl)
    (F : Fr hb env.locals s.heap m₀) (N : News hb env.locals s.heap (gl ++ (a, oa) :: news)) (hgl : ∀ q ∈ gl, @LE.le Nat _ Lg q.1) (hoa : GenObjIs oa gs0.size) (ha : (@LT.lt Nat _ a g₁) ∧ a ≠ Lg) (hoff : ∀ p ∈ news, (@LT.lt Nat _ p.1 Lg))
    (J : Nat → (Str → Option Value) → List (Addr × Obj) → Prop) (h0 : J 0 m₀ news)
    (step : ∀ j p x T oT t1 t2 gl m₁ news₁ s₁, all[j]? = some (p, x) → J j m₁ news₁ → (T, oT) ∈ gl → (oT.cls = .type "tuple" ∧ ∃ n, oT.data = .seq #[.int p t1, .str x t2] n) → (∀ p ∈ news₁, (@LT.lt Nat _ p.1 Lg)) → (∀ q ∈ gl, @LE.le Nat _ Lg q.1) →
      Fr hb env.locals s₁.heap m₁ → News hb env.locals s₁.heap (gl ++ (a, oa) :: news₁) →
      wpAny (model prog w) A (assign target env (.ref T)) (fun _ s₃ => wpAny (model prog w) A (execs body env) (TurnY hb env.locals g₁ Lg a oa gl (J (j + 1)) s₁) E s₃) E s₁)
    (done : ∀ h' tk m' news', Fr hb env.locals h' m' → News hb env.locals h' ((a, oa) :: news') → J all.length m' news' → wpAny (model prog w) A (execs orelse env) Q E { s with heap := h', gens := gs0.push .finished, toks := tk })
    (hE : PassesOwn (model prog w) A env E := by passes_own) :
    wpAny (model prog w) A (pyIter (.ref a)) (LoopC prog w A target body orelse env Q E) E s := by
  have isg : ∀ {h : Heap}, h.get? a = some oa → h.IsGen a gs0.size := fun e => by
    obtain ⟨h1, ⟨nm, qn, h2⟩, h3⟩ := hoa
    exact ⟨oa, nm, qn, e, h1, h2, h3⟩
  refine wpAny_pyIter_gen (isg (N _ (List.mem_append_right _ (.head _))).1) ?_
  show codeAny _ _ _ _ _
  refine codeAny_forLoop_any
    (fun k s' => ∃ h' tk j γ gl m' news', s' = { s with heap := h', gens := gs0.push γ, toks := tk } ∧ j ≤ all.length ∧ k = all.length + 1 - j ∧ GGo prog w A hb g₁ Lg all γ (all.length - j) gl ∧ Fr hb env.locals h' m' ∧ News hb env.locals h' (gl ++ (a, oa) :: news') ∧
      (∀ q ∈ gl, @LE.le Nat _ Lg q.1) ∧ (∀ p ∈ news', (@LT.lt Nat _ p.1 Lg)) ∧ J j m' news') ?_ (all.length + 1)
    ⟨s.heap, s.toks, 0, γ, gl, m₀, news, by rw [← hγ], Nat.zero_le _, rfl, hgo, F, N, hgl, hoff, h0⟩
  intro k s' hq0
  refine ex7 hq0 fun h' tk j γ gl m' news' hq => ?_
  have qb0 := hq.1
  have hj := hq.2.1
  have qb2 := hq.2.2.1
  have hgo := hq.2.2.2.1
  have F' := hq.2.2.2.2.1
  have N' := hq.2.2.2.2.2.1
  have hgl := hq.2.2.2.2.2.2.1
  have hoff := hq.2.2.2.2.2.2.2.1
  have hJ := hq.2.2.2.2.2.2.2.2
  clear hq hq0
  subst qb0
  subst qb2
  have upF : ∀ h₁ : Heap, (∀ (b : Addr) o, (@LT.lt Nat _ b g₁) → b ≠ Lg → h'.get? b = some o → h₁.get? b = some o) → Fr hb env.locals h₁ m' ∧ News hb env.locals h₁ ((a, oa) :: news') := fun h₁ k₁ => by
    refine ⟨⟨F'.ns.at' fun o e => k₁ _ o (Nat.lt_trans hLL hLg) (Nat.ne_of_lt hLL) e, fun b o e => ?_, F'.above⟩, fun p hp => ?_⟩
    · have hbl : @LT.lt Nat _ b env.locals := Nat.lt_of_lt_of_le (Heap.lt_size e) F'.above
      exact k₁ b o (Nat.lt_trans hbl (Nat.lt_trans hLL hLg)) (Nat.ne_of_lt (Nat.lt_trans hbl hLL)) (F'.keep b o e)
    · have z := N' p (List.mem_append_right _ hp)
      rcases List.mem_cons.mp hp with rfl | hp'
      · exact ⟨k₁ _ _ ha.1 ha.2 z.1, z.2⟩
      · exact ⟨k₁ _ _ (Nat.lt_trans (hoff p hp') hLg) (Nat.ne_of_lt (hoff p hp')) z.1, z.2⟩
  have hgs : (gs0.push γ)[gs0.size]? = some γ := by simp
  refine wpAny_pyNext_gen (g := gs0.size) (n := all.length - j) (gs := γ) (P := fun n s₀ s₁ => n = 0 ∧ KeptG g₁ Lg s₀ s₁) (Y := yG hb g₁ Lg all) hh (hlim.keeps F'.keep) hroom (isg (N' _ (List.mem_append_right _ (.head _))).1) hgs (hgo _ (fun q hq => (N' q (List.mem_append_left _ hq)).1) F'.keep) ?_ ?_
  · rintro v s₁ γ' ⟨T, oT, t1, t2, p, x, gl', rfl, hall, hT, hoT, hgl', ⟨h₁, tk₁, rfl, k₁⟩, hkap⟩
    obtain ⟨n, hn⟩ : ∃ n, all.length - j = n + 1 := by
      cases hn : all.length - j with
      | zero =>
        rw [hn] at hkap
        exact (hkap _ (fun q hq => (hgl' q hq).2) fun b o e => k₁ b o (Nat.lt_trans (Nat.lt_of_lt_of_le (Heap.lt_size e) F'.above) (Nat.lt_trans hLL hLg)) (Nat.ne_of_lt (Nat.lt_trans (Nat.lt_of_lt_of_le (Heap.lt_size e) F'.above) hLL)) (F'.keep b o e)).elim
      | succ n => exact ⟨n, rfl⟩
    have hidx : all.length - 1 - (all.length - j - 1) = j := gl_idx (by assumption) hn
    rw [hidx] at hall
    obtain ⟨F₁, N₁⟩ := upF h₁ k₁
    have hgens : ((Shared.setGen { s with heap := h', gens := gs0.push γ, toks := tk } gs0.size .running).gens.setIfInBounds gs0.size γ') = gs0.push γ' := by
      show ((gs0.push γ).setIfInBounds gs0.size .running).setIfInBounds gs0.size γ' = _
      rw [push_set, push_set]
    have N₂ : News hb env.locals h₁ (gl' ++ (a, oa) :: news') := fun q hq => by
      rcases List.mem_append.mp hq with hq | hq
      · have hge : @LE.le Nat _ Lg q.1 := (hgl' q hq).1
        refine ⟨(hgl' q hq).2, Nat.ne_of_gt (Nat.lt_of_lt_of_le hLL hge), ?_⟩
        cases e : hb.get? q.1 with
        | none => rfl
        | some o => exact absurd (Nat.lt_of_lt_of_le (Heap.lt_size e) F'.above) (Nat.not_lt.mpr (Nat.le_trans (Nat.le_of_lt hLL) hge))
      · exact N₁ q hq
    show wpAny _ _ (letOwnedTupleGo target (.ref a) (.ref T)) _ _ _
    have hst : ∀ P : Shared → Prop, P { s with heap := h₁, gens := gs0.push γ', toks := tk₁ } → P (Shared.setGen { (Shared.setGen { s with heap := h', gens := gs0.push γ, toks := tk } gs0.size .running) with heap := h₁, toks := tk₁ } gs0.size γ') := fun P hp => by
      show P { s with heap := h₁, gens := (Shared.setGen { s with heap := h', gens := gs0.push γ, toks := tk } gs0.size .running).gens.setIfInBounds gs0.size γ', toks := tk₁ }
      rw [hgens]; exact hp
    refine hst _ ?_
    refine letGo_gen (N₂ _ (List.mem_append_right _ (.head _))).1 hoa ?_
    refine wpAny_mono (step j p x T oT t1 t2 gl' m' news' _ hall hJ hT hoT hoff (fun q hq => (hgl' q hq).1) F₁ N₂) (fun _ s₃ q => wpAny_mono q (fun f s₄ q => ?_) hE) hE
    have qa0 := q.1
    refine ex4 q.2 fun h₄ tk₄ m₄ news₄ hq => ?_
    have qb0 := hq.1
    have F₄ := hq.2.1
    have N₄ := hq.2.2.1
    have off₄ := hq.2.2.2.1
    have hj₄ := hq.2.2.2.2
    clear hq q
    subst qa0
    subst qb0
    refine ⟨all.length + 1 - (j + 1), dec_lt (gl_lt hn), h₄, tk₄, j + 1, γ', gl', m₄, news₄, rfl, gl_lt hn, rfl, ?_, F₄, N₄, fun q hq => (hgl' q hq).1, off₄, hj₄⟩
    intro s'' k1 k2
    have := hkap s'' k1 k2
    rw [hn] at this
    rw [gl_sub hn]
    exact this
  · rintro s₁ ⟨hn, h₁, tk₁, rfl, k₁⟩ h₂ k₂
    have hje : j = all.length := Nat.le_antisymm (by assumption) (Nat.sub_eq_zero_iff_le.mp (by first | exact hn | exact hn.symm))
    subst hje
    obtain ⟨F₁, N₁⟩ := upF h₂ fun b o hb hL e => k₂ b o (k₁ b o hb hL e)
    have hgens : ((Shared.setGen { s with heap := h', gens := gs0.push γ, toks := tk } gs0.size .running).gens.setIfInBounds gs0.size .finished) = gs0.push .finished := by
      show ((gs0.push γ).setIfInBounds gs0.size .running).setIfInBounds gs0.size .finished = _
      rw [push_set, push_set]
    show wpAny _ _ (execs orelse env) _ _ { s with heap := h₂, gens := (Shared.setGen { s with heap := h', gens := gs0.push γ, toks := tk } gs0.size .running).gens.setIfInBounds gs0.size .finished, toks := tk₁ }
    rw [hgens]
    exact wpAny_mono (done h₂ tk₁ m' news' F₁ N₁ hJ) (fun _ _ x => x) hE
end
end Mine

/-! GenC -/
namespace Mine
section
variable {prog : Program} {w : World} {A : Around} {s : Shared} {h₀ : Heap} {L : Addr} {m mg mb : Str → Option Value} {K : Frag} {p : Program} {loose : List Str} {mean : ExcName → Option Value}
  {R : Result → Shared → Prop} {name qual : Str} {params : Arguments} {body : List Stmt} {scope : Scope} {dV kV doc pm cdv ct oc : Value} {an od : Option Addr} {osl : Array (Option Value)} {f : Addr} {args : Args} {binds : List (Str × Value)}
/-- a call of a generator def of the text's: the generator is made -/
theorem enterG (F : Fr h₀ L s.heap m) (X₀ : K.In h₀) (T : Top p loose mean mg mb h₀)
    (ho : K.lookup f = some ⟨oc, od, .func (fnOf name qual params body scope dV kV doc pm an cdv ct), osl⟩) (hcd : codeIn K cdv qual = true) (hroom : A.depth < recursionLimit)
    (hbind : BindsTo s (fnOf name qual params body scope dV kV doc pm an cdv ct) args binds) (hloc : ∀ y ∈ binds, scope.names.lookup y.1 = some .local)
    (h : ∀ (h₁ : Heap) (tk : Nat) (nm qn : Value), h₁.Ns s.heap.objs.size (fun y => binds.reverse.lookup y) → (∀ b o, s.heap.get? b = some o → h₁.get? b = some o) → h₁.objs.size = s.heap.objs.size + 1 →
      R (.ok (.ret (.ref h₁.objs.size))) { s with gens := s.gens.push (.fresh (.func body (envOf qual scope s.heap.objs.size f cdv))), toks := tk, heap := h₁.push { cls := .type "generator", data := .fields #[.int s.gens.size 0, nm, qn] } })
    (hco : scope.isCoroutine = false) (hgen : scope.isGenerator = true) (hk : scope.kind = .function)
    (hcell : ∀ x ∈ scope.names, x.2 ≠ .cell) : codeAny (model prog w) A (.call (.ref f) args) R s := by
  have XG := X₀.keeps F.keep
  have hlim := T.nolimit.keeps F.keep
  refine codeAny_call_generator (fd := fnX name qual params body scope [] dV kV doc pm an cdv ct) (body := body) hroom (XG _ _ ho) rfl hco hgen rfl (codeRec_of XG hcd) (hbind _ _ _ _ ?_)
  refine wpAny_newFunctionEnv hcell hloc (fun h₁ hns₀ hsb₀ => ⟨hlim.fresh _ hsb₀, ?_⟩) hk
  exact h h₁ _ _ _ hns₀ (fun b o e => hsb₀.extBut b o (Nat.ne_of_lt (Heap.lt_size e)) (Heap.get?_push_of_some _ e)) (by rw [hsb₀.1, Heap.size_push])
end
/-- the pairs that the generator gives out -/
noncomputable def tokF : List Nat → Nat → Bool → List (Int × Str)
  | [], _, _ => []
  | c :: r, i, true => ((i : Int), Str.ofString "\\" ++ ⟨#[c]⟩) :: tokF r (i + 1) false
  | c :: r, i, false => if c = 92 then tokF r (i + 1) true else ((i : Int), ⟨#[c]⟩) :: tokF r (i + 1) false
/-- is a mark left over at the end? -/
noncomputable def endE : List Nat → Bool → Bool
  | [], e => e
  | _ :: r, true => endE r false
  | c :: r, false => endE r (decide (c = 92))
/-- the heap's first objects -/
noncomputable def trunc (h : Heap) (n : Nat) : Heap := ⟨(h.objs.toList.take n).toArray, h.life⟩
theorem trunc_get {h : Heap} {n : Nat} {b : Addr} (hb : @LT.lt Nat _ b n) : (trunc h n).get? b = h.get? b := by
  unfold trunc Heap.get?
  have : ((h.objs.toList.take n).toArray[b]?) = h.objs[b]? := by
    rw [List.getElem?_toArray, List.getElem?_take]
    have : b < n := hb
    simp [this]
  simp only [this]
theorem trunc_none {h : Heap} {n : Nat} {b : Addr} (hb : @LE.le Nat _ n b) : (trunc h n).get? b = none := by
  unfold trunc Heap.get?
  have : ((h.objs.toList.take n).toArray[b]?) = none := by
    rw [List.getElem?_toArray, List.getElem?_take]
    have : ¬ b < n := Nat.not_lt.mpr hb
    simp [this]
  simp only [this]
theorem trunc_size (h : Heap) (n : Nat) : (trunc h n).objs.size ≤ n := by
  unfold trunc
  simp
  omega
theorem trunc_of {h : Heap} {n : Nat} {b : Addr} {o : Obj} (e : (trunc h n).get? b = some o) : h.get? b = some o ∧ @LT.lt Nat _ b n := by
  rcases Nat.lt_or_ge b n with hb | hb
  · rw [trunc_get hb] at e; exact ⟨e, hb⟩
  · rw [trunc_none hb] at e; cases e
/-- where the generator's frame stands: all that is older is its ground -/
theorem Fr.trunc {h : Heap} {Lg : Addr} {m : Str → Option Value} (hn : h.Ns Lg m) : Fr (Mine.trunc h Lg) Lg h m := ⟨hn, fun _ _ e => (trunc_of e).1, trunc_size _ _⟩
theorem KeptG.of {s₀ : Shared} {Lg a : Addr} {m : Str → Option Value} {h' : Heap} {tk : Nat} {oa : Obj} (ha : (a : Nat) = Lg + 1) (F : Fr (trunc s₀.heap Lg) Lg h' m) (h1 : s₀.heap.get? a = some oa) (h2 : h'.get? a = some oa) : KeptG (a + 1) Lg s₀ { s₀ with heap := h', toks := tk } := by
  refine ⟨_, _, rfl, fun b o hb hL e => ?_⟩
  have h3 : b < Lg ∨ b = a := by
    have e1 : (b : Nat) ≠ Lg := hL
    have e2 : (b : Nat) < a + 1 := hb
    rcases Nat.lt_or_ge b Lg with q | q
    · exact .inl q
    · refine .inr (Nat.le_antisymm (Nat.le_of_lt_succ e2) ?_)
      rw [ha]
      exact Nat.lt_of_le_of_ne q (Ne.symm e1)
  rcases h3 with h3 | h3
  · exact F.keep b o (by rw [trunc_get h3]; exact e)
  · subst h3
    rw [h1] at e; cases e; exact h2
theorem tokF_esc {c : Nat} {r : List Nat} {i : Nat} : tokF (c :: r) i true = ((i : Int), Str.ofString "\\" ++ ⟨#[c]⟩) :: tokF r (i + 1) false := rfl
theorem tokF_bs {r : List Nat} {i : Nat} : tokF (92 :: r) i false = tokF r (i + 1) true := rfl
theorem tokF_ch {c : Nat} {r : List Nat} {i : Nat} (h : c ≠ 92) : tokF (c :: r) i false = ((i : Int), ⟨#[c]⟩) :: tokF r (i + 1) false := by
  show (if c = 92 then _ else _) = _
  rw [if_neg h]
theorem bs_iff {c : Nat} : ((⟨#[c]⟩ : Str) = Str.ofString "\\") ↔ c = 92 := by
  rw [show Str.ofString "\\" = ⟨#[92]⟩ by rfl]
  simp
theorem frCongr {h₀ h : Heap} {L : Addr} {m m' : Str → Option Value} (F : Fr h₀ L h m) (e : ∀ y, m y = m' y) : Fr h₀ L h m' := (funext e : m = m') ▸ F
/-- the generator's names at the loop's head -/
noncomputable abbrev mG (t : Str) (ta : Tok) (e : Bool) (up uc : Option Value) : Str → Option Value := fun y => if y = ("ch" : Str) then uc else if y = ("pos" : Str) then up else if y = ("escape" : Str) then some (.bool e) else if y = ("addr" : Str) then some (.str t ta) else none
/-- what holds at the loop's head -/
structure CondG (hb : Heap) (t : Str) (ta : Tok) (Lg ag E It : Addr) (oa : Obj) (all : List (Int × Str)) (r : List Nat) (i : Nat) (e : Bool) (s₀ s : Shared) : Prop where
  st : ∃ h tk, s = { s₀ with heap := h, toks := tk }
  rest : r = t.cps.toList.drop i
  low : i ≤ t.cps.size
  ground : ∀ b o, hb.get? b = some o → s₀.heap.get? b = some o
  self : s₀.heap.get? ag = some oa
  toks : ∃ done, all = done ++ tokF r i e
  fin : endE r e = false
  F : ∃ up uc, Fr (trunc s₀.heap Lg) Lg s.heap (mG t ta e up uc)
  N : News (trunc s₀.heap Lg) Lg s.heap [(ag, oa)]
  en : ∃ old, IsEnum s.heap E It i old
  it : s.heap.IsStrIter It (strIterType t) t ta i
theorem tup_own {prog : Program} {w : World} {A : Around} {E : Value → Shared → Prop} {s : Shared} {h₀ : Heap} {L : Addr} {m : Str → Option Value} {news : List (Addr × Obj)} {vs : List Value} {Q : Value → Shared → Prop} (F : Fr h₀ L s.heap m := by k_asm) (N : News h₀ L s.heap news := by k_asm) (hlen : vs.length ≤ 16 := by exact Nat.le_of_ble_eq_true rfl)
    (h : ∀ h' D oD, Fr h₀ L h' m → News h₀ L h' ((D, oD) :: news) → (oD.cls = .type "tuple" ∧ ∃ n, oD.data = .seq vs.toArray n) → (@LT.lt Nat _ L D) → Q (.ref D) { s with heap := h' }) : wpAny (model prog w) A (newTuple vs) Q E s := by
  refine wpAny_newTuple ?_ (by rw [sizeLine_eq]; omega)
  refine h _ s.heap.objs.size { cls := .type "tuple", data := .seq vs.toArray } (F.push _) (fun q hq => ?_) ⟨rfl, _, rfl⟩ F.ns.lt
  rcases List.mem_cons.mp hq with rfl | hq
  · exact ⟨Heap.get?_push_size _ rfl, Nat.ne_of_gt F.ns.lt, none_ge F (Nat.le_refl _)⟩
  · exact ⟨Heap.get?_push_of_some _ (N q hq).1, (N q hq).2⟩
theorem yield_ok {hb : Heap} {all done rest : List (Int × Str)} {Lg ag E It D : Addr} {oa oE oI oD : Obj} {m : Str → Option Value} {s₀ : Shared} {h' : Heap} {k n : Nat} {p : Int} {x : Str} {t1 t2 : Tok} {kap : Resume → Shared → Prop} (hag : (ag : Nat) = Lg + 1) (hE : @LT.lt Nat _ Lg E) (hI : @LT.lt Nat _ Lg It)
    (F : Fr (trunc s₀.heap Lg) Lg h' m) (N : News (trunc s₀.heap Lg) Lg h' [(D, oD), (ag, oa), (E, oE), (It, oI)]) (hself : s₀.heap.get? ag = some oa) (hoD : oD.cls = .type "tuple" ∧ ∃ n, oD.data = .seq #[.int p t1, .str x t2] n) (hD : @LT.lt Nat _ Lg D)
    (hall : all = done ++ (p, x) :: rest) (hn : rest.length = n)
    (hcont : ∀ s'' : Shared, Fr (trunc s''.heap Lg) Lg s''.heap m → News (trunc s''.heap Lg) Lg s''.heap [(ag, oa), (E, oE), (It, oI)] → s''.heap.get? ag = some oa → (∀ b o, hb.get? b = some o → s''.heap.get? b = some o) → kap (.send .none) s'') :
    yG hb (ag + 1) Lg all n s₀ (.ref D) { s₀ with heap := h', toks := k } kap := by
  have hLa : @LT.lt Nat _ Lg ag := by rw [hag]; exact Nat.lt_succ_self _
  obtain ⟨oL, hoL, hoLd⟩ := LCg.ns_obj F.ns
  refine ⟨D, oD, t1, t2, p, x, [(Lg, oL), (D, oD), (ag, oa), (E, oE), (It, oI)], rfl, ?_, .tail _ (.head _), hoD, ?_, KeptG.of hag F hself (N _ (.tail _ (.head _))).1, ?_⟩
  · have hl : all.length = done.length + (rest.length + 1) := by rw [hall, List.length_append, List.length_cons]
    have : all.length - 1 - n = done.length := by rw [hl, hn]; show done.length + n - n = _; exact Nat.add_sub_cancel ..
    rw [this, hall, List.getElem?_append_right (Nat.le_refl _), Nat.sub_self]
    rfl
  · intro q hq
    rcases List.mem_cons.mp hq with rfl | hq
    · exact ⟨Nat.le_refl _, hoL⟩
    · refine ⟨?_, (N q hq).1⟩
      simp only [List.mem_cons, List.not_mem_nil, or_false] at hq
      rcases hq with rfl | rfl | rfl | rfl
      · exact Nat.le_of_lt hD
      · exact Nat.le_of_lt hLa
      · exact Nat.le_of_lt hE
      · exact Nat.le_of_lt hI
  · intro s'' hg hb
    refine hcont s'' (Fr.trunc (hoLd.ns (hg _ (.head _)))) (fun q hq => ?_) (hg (ag, oa) (by simp)) hb
    refine ⟨hg q (.tail _ (.tail _ hq)), ?_, ?_⟩
    all_goals
      simp only [List.mem_cons, List.not_mem_nil, or_false] at hq
      rcases hq with rfl | rfl | rfl
    · exact Nat.ne_of_gt hLa
    · exact Nat.ne_of_gt hE
    · exact Nat.ne_of_gt hI
    · exact trunc_none (Nat.le_of_lt hLa)
    · exact trunc_none (Nat.le_of_lt hE)
    · exact trunc_none (Nat.le_of_lt hI)
theorem seg_leafFor {M : Model} {A : Around} {R : GenEnd} {Y : Protocol} {n : Nat} {s₀ s : Shared} {c c₁ : Code} {p₁ : Pos} {env : Env} {K : Flow → Sem Fin} {H : Value → Sem Fin} {gd : Bool → Bool} {lv : List Value → List Value} {h : Option Value} {g : Bool} {l : List Value} {kp : List Value} {fs : List Frame} {f : Flow}
    (x : Seg M A R Y n s₀ c₁ (K f) fs s) : Seg M A R Y n s₀ c (.pure (.done f)) (.ret (kFor env K H gd lv) h g l c₁ p₁ kp :: fs) s := seg_leaf (.ok f) x
/-- one code, met again and again -/
theorem gen_ind {X : Type} {M : Model} {A : Around} {R : GenEnd} {Y : Protocol} {c : Code} {t : Sem Fin} {fs : List Frame} (Cond : List X → Nat → Bool → Shared → Shared → Prop) (len : List X → Nat → Bool → Nat)
    (step : ∀ r i e s₀ s, (∀ r' i' e' s₀' s', r'.length < r.length → Cond r' i' e' s₀' s' → Seg M A R Y (len r' i' e') s₀' c t fs s') → Cond r i e s₀ s → Seg M A R Y (len r i e) s₀ c t fs s) :
    ∀ r i e s₀ s, Cond r i e s₀ s → Seg M A R Y (len r i e) s₀ c t fs s := by
  have key : ∀ k r i e s₀ s, r.length ≤ k → Cond r i e s₀ s → Seg M A R Y (len r i e) s₀ c t fs s := by
    intro k
    induction k with
    | zero => exact fun r i e s₀ s hk hc => step r i e s₀ s (fun r' _ _ _ _ hlt => by omega) hc
    | succ k ih => exact fun r i e s₀ s hk hc => step r i e s₀ s (fun r' i' e' s₀' s' hlt hc' => ih r' i' e' s₀' s' (by omega) hc') hc
  exact fun r i e s₀ s hc => key r.length r i e s₀ s (Nat.le_refl _) hc
theorem draws_str {prog : Program} {w : World} {A : Around} (hh : A.handled = none) (it : Addr) (x : Str) (t : Tok) :
    Draws prog w A it [it] x.cps.size (fun i v => ∃ c u, x.cps[i]? = some c ∧ v = .str ⟨#[c]⟩ u) (fun i h => h.IsStrIter it (strIterType x) x t i) := by
  unfold strIterType
  split
  · exact Draws.strAscii hh it x t
  · exact Draws.strWide hh it x t
local macro_rules | `(tactic| walk_at $s:str) => kP s [("call type:enumerate", kH), ("newTuple", kI 7 (kA ``tup_own))]
theorem c_gen : ∀ (w : World) (loose : List Str) (mean : ExcName → Option Value) (mg mb : Str → Option Value) (dp un : Nat) (gd : Option (List Code)) (cn : Str) (cs : Scope) (a : Addr) (ccd : Value) (cl : List (Str × Addr)) (outer : List Env) (A₀ : Around) (base h₀ : Heap) (L : Addr) (m : Str → Option Value) (s : Shared) (Q E : Value → Shared → Prop) (t : Str) (ta : Tok) (news : List (Addr × Obj)),
    Site w (hd.heap_39 w.params) loose mean mg mb dp un cs outer A₀ base h₀ L m 10 s → News h₀ L s.heap news → endE t.cps.toList false = false →
    (∀ (h' : Heap) (tk' : Nat) (a' Lg : Addr) (g₁ : Nat) (oa : Obj) (γ : GenState) (gl : List (Addr × Obj)), Fr h₀ L h' m → News h₀ L h' (gl ++ (a', oa) :: news) → (@LT.lt Nat _ L Lg) → (@LT.lt Nat _ Lg g₁) → GenObjIs oa s.gens.size → ((@LT.lt Nat _ a' g₁) ∧ a' ≠ Lg) → (@LT.lt Nat _ Lg a') → (∀ q ∈ gl, @LE.le Nat _ Lg q.1) →
      (∀ p ∈ news, (@LT.lt Nat _ p.1 Lg)) → GGo PySem.Challenge.rw_zo0006_01.row.prog w (ktrTop dp un gd cn cs L a ccd cl outer) h₀ g₁ Lg (tokF t.cps.toList 0 false) γ (tokF t.cps.toList 0 false).length gl →
      Q (.ref a') { s with heap := h', gens := s.gens.push γ, toks := tk' }) →
      wpAny (model PySem.Challenge.rw_zo0006_01.row.prog w) (ktrTop dp un gd cn cs L a ccd cl outer) (call (.ref 21) [.str t ta]) Q E s := by
  k_fill
  w_top off
  intro w loose mean mg mb dp un gd cn cs a ccd cl outer A₀ base h₀ L m s Q E t ta news S N hend hret
  obtain ⟨hB, hF, hK, hT, hk, hdp, hun⟩ := S
  refine wpAny_call (enterG (binds := [("addr", .str t ta)]) hF hK hT (by k_is) (by k_is) (by ktr_room) (BindsTo.of_eq rfl) (locs rfl) ?_ rfl rfl rfl (by decide))
  intro h₁ tk nm qn hns hup hsz
  obtain ⟨oL, hoL, hoLd⟩ := LCg.ns_obj hns
  refine hret _ _ _ s.heap.objs.size (h₁.objs.size + 1) { cls := .type "generator", data := .fields #[.int s.gens.size 0, nm, qn] } _ [(s.heap.objs.size, oL), (h₁.objs.size, { cls := .type "generator", data := .fields #[.int s.gens.size 0, nm, qn] })] ?_ ?_ hF.ns.lt ?_ ⟨rfl, ⟨_, _, rfl⟩, rfl⟩ ?_ (by rw [hsz]; exact Nat.lt_succ_self _) ?_ ?_ ?_
  · exact (hF.keeps hup).push _
  · have z2 : ∀ q ∈ ((h₁.objs.size, { cls := .type "generator", data := .fields #[.int s.gens.size 0, nm, qn] }) :: news : List (Addr × Obj)), (h₁.push { cls := .type "generator", data := .fields #[.int s.gens.size 0, nm, qn] }).get? q.1 = some q.2 ∧ q.1 ≠ L ∧ h₀.get? q.1 = none := by
      intro q hq
      rcases List.mem_cons.mp hq with rfl | hq
      · refine ⟨Heap.get?_push_size _ rfl, ?_, ?_⟩
        · show h₁.objs.size ≠ L
          rw [hsz]; exact Nat.ne_of_gt (Nat.lt_succ_of_lt hF.ns.lt)
        · show h₀.get? h₁.objs.size = none
          rw [hsz]; exact none_ge hF (Nat.le_succ _)
      · exact ⟨Heap.get?_push_of_some _ (hup _ _ (N q hq).1), (N q hq).2⟩
    intro q hq
    rcases List.mem_cons.mp hq with rfl | hq
    · exact ⟨Heap.get?_push_of_some _ hoL, Nat.ne_of_gt hF.ns.lt, none_ge hF (Nat.le_refl _)⟩
    · rcases List.mem_cons.mp hq with rfl | hq
      · exact z2 _ (.head _)
      · exact z2 q hq
  · rw [hsz]; exact Nat.lt_succ_of_lt (Nat.lt_succ_self _)
  · rw [hsz]; exact ⟨Nat.lt_succ_self _, Nat.succ_ne_self _⟩
  · intro q hq
    rcases List.mem_cons.mp hq with rfl | hq
    · exact Nat.le_refl _
    · rw [List.mem_singleton.mp hq]
      show @LE.le Nat _ s.heap.objs.size h₁.objs.size
      rw [hsz]; exact Nat.le_succ _
  · intro p hp
    exact Heap.lt_size (N p hp).1
  · intro s'' hg hb
    have hLg : s''.heap.get? s.heap.objs.size = some oL := hg _ (.head _)
    have hag := hg _ (.tail _ (.head _))
    have hnsg : s''.heap.Ns s.heap.objs.size _ := hoLd.ns hLg
    refine ⟨rfl, seg_func ?_⟩
    generalize hLgd : s.heap.objs.size = Lg at *
    generalize hagd : h₁.objs.size = ag at *
    generalize ({ cls := .type "generator", data := .fields #[.int s.gens.size 0, nm, qn] } : Obj) = oa at *
    have hbLg : ∀ (b : Addr) o, h₀.get? b = some o → (trunc s''.heap Lg).get? b = some o := fun b o e => by
      have h1 : @LT.lt Nat _ b Lg := by rw [← hLgd]; exact Nat.lt_of_lt_of_le (Heap.lt_size e) (Nat.le_trans hF.above (Nat.le_of_lt hF.ns.lt))
      rw [trunc_get h1]; exact hb b o e
    have Fg := Fr.trunc hnsg
    have Ng : News (trunc s''.heap Lg) Lg s''.heap [(ag, oa)] := fun q hq => by
      rw [List.mem_singleton.mp hq]
      exact ⟨hag, Nat.ne_of_gt (hsz ▸ Nat.lt_succ_self _), trunc_none (hsz ▸ Nat.le_succ _)⟩
    have Xg := hK.keeps hbLg
    have Tg := hT.keeps hbLg
    have hLg0 : @LE.le Nat _ h₀.objs.size Lg := by rw [← hLgd]; exact Nat.le_trans hF.above (Nat.le_of_lt hF.ns.lt)
    clear hB hF N
    refine seg_execs_cons (seg_stmt ?_)
    k_steps
    refine seg_execs_cons (seg_stmt ?_)
    k_steps
    refine seg_execs_cons (seg_For (by intro _; rfl) ?_)
    k_steps
    rename Fr _ Lg _ _ => F1
    rename News _ Lg _ _ => N1
    unfold Hold
    refine call_enumerate_str fun h₂ he hi _ up2 => ?_
    have hlow := lt_of_get (N1 _ (.head _)).1
    have F2 := F1.keeps up2
    have N2 := N1.grown up2
    clear F1 N1
    dsimp only at he hi up2 hlow ⊢
    refine wpAny_pyIter_enum he ?_
    intro p
    rename_i hxa hxb szz
    generalize hItd : hxb.objs.size = It at *
    have hEI : It + 1 ≠ It := Nat.succ_ne_self _
    have hLa : @LT.lt Nat _ Lg ag := hsz ▸ Nat.lt_succ_self _
    have hLI : @LT.lt Nat _ Lg It := Nat.lt_trans hLa hlow
    have W := fun (A' : Around) (hh : A'.handled = none) => WalksT.enumerateD (prog := PySem.Challenge.rw_zo0006_01.row.prog) (w := w) (A := A') (draws_str (A := A'.in1) hh It t ta) (It + 1) hEI (fun hm => hEI (List.mem_singleton.mp hm)) (.head _)
    refine gen_ind (CondG h₀ t ta Lg ag (It + 1) It oa (tokF t.cps.toList 0 false)) (fun r i e => (tokF r i e).length) ?_ t.cps.toList 0 false s'' _ ⟨⟨_, _, rfl⟩, rfl, Nat.zero_le _, hb, hag, ⟨[], rfl⟩, hend, ⟨some (.int 0 s''.toks), none, frCongr F2 fun y => ?_⟩, N2, ⟨_, he⟩, hi⟩
    · intro r i e s₀ s₁ ih C
      have hlow' := hlow
      clear F2 N2 he hi hag hg hb hLg hnsg hup hoL
      obtain ⟨⟨h, tk, rfl⟩, hrest, hlow, hbs, hself, ⟨done, hall⟩, hfin, ⟨up, uc, FC⟩, NC, ⟨old, hen⟩, hit⟩ := C
      refine seg_forLoop ?_
      cases r with
      | nil =>
        have hin : i = t.cps.size := by
          have := congrArg List.length hrest
          rw [List.length_drop] at this
          simp at this
          omega
        subst hin
        refine (W _ rfl).done _ _ _ ⟨⟨_, hen⟩, hit⟩ fun h₁ tk₁ k₁ => ?_
        have k₁' : ∀ (b : Addr) o, (@LT.lt Nat _ b It) → h.get? b = some o → h₁.get? b = some o := fun b o hb x => k₁ b o (fun hm => by
            rcases List.mem_cons.mp hm with e | hm
            · exact absurd hb (Nat.not_lt.mpr (e ▸ Nat.le_succ _))
            · exact Nat.ne_of_lt hb (List.mem_singleton.mp hm)) x
        have F₃ : Fr (trunc s₀.heap Lg) Lg h₁ (mG t ta e up uc) := ⟨FC.ns.at' fun o x => k₁' _ o hLI x, fun b o x => k₁' b o (Nat.lt_trans (trunc_of x).2 hLI) (FC.keep b o x), FC.above⟩
        have N₃ : News (trunc s₀.heap Lg) Lg h₁ [(ag, oa)] := fun q hq => ⟨k₁' _ _ (by rw [List.mem_singleton.mp hq]; exact hlow') (NC q hq).1, (NC q hq).2⟩
        clear FC NC
        have he : e = false := hfin
        subst he
        have XB := hK.keeps (fun b o x => (trunc_get (n := Lg) (h := s₀.heap) (b := b) (Nat.lt_of_lt_of_le (Heap.lt_size x) hLg0)).trans (hbs b o x))
        have TB := hT.keeps (fun b o x => (trunc_get (n := Lg) (h := s₀.heap) (b := b) (Nat.lt_of_lt_of_le (Heap.lt_size x) hLg0)).trans (hbs b o x))
        refine seg_block (seg_execs_nil (seg_leafFor ?_))
        dsimp only
        refine seg_execs_cons (seg_If ?_)
        k_steps
        rename Fr _ Lg _ _ => F6
        rename News _ Lg _ _ => N6
        refine seg_execs_nil ?_
        dsimp only
        refine seg_execs_nil ?_
        exact seg_end (.ok (.ret .none)) ⟨rfl, rfl, KeptG.of hsz F6 hself (N6 _ (.head _)).1⟩
      | cons c r =>
        have hilt : i < t.cps.size := by
          have := congrArg List.length hrest
          rw [List.length_drop] at this
          simp at this
          omega
        refine (W _ rfl).item i _ _ _ hilt ⟨⟨_, hen⟩, hit⟩ fun T vals h₁ tk₁ hPt _ hTT hMid k₁ => ?_
        obtain ⟨ti, xv, ⟨c', u, hc', rfl⟩, rfl⟩ := hPt
        have hcc : c' = c := by
          have := congrArg (·[0]?) hrest
          simp only [List.getElem?_cons_zero, List.getElem?_drop, Nat.add_zero] at this
          rw [Array.getElem?_toList, hc'] at this
          exact (Option.some.inj this).symm
        subst hcc
        refine (W _ rfl).go _ _ _ i T _ _ _ hMid fun h₂' st₂ k₂ => ?_
        have hT₂ : h₂'.IsTuple T #[.int i ti, .str ⟨#[c']⟩ u] := hTT.at fun o e => k₂ T o ((W (ktrTop dp un gd cn cs L a ccd cl outer) rfl).apart i T h₁ hMid) e
        refine wpAny_assign_Tuple rfl hT₂ rfl rfl fun h₃ hx₃ => ?_
        replace hx₃ : Heap.ExtBut h₂'.objs.size h₂' h₃ := hx₃
        have up₃ : ∀ b o, h₂'.get? b = some o → h₃.get? b = some o := fun b o x => hx₃ b o (Nat.ne_of_lt (Heap.lt_size x)) x
        have old₃ : ∀ (b : Addr) o, (@LT.lt Nat _ b It) → h.get? b = some o → h₃.get? b = some o := fun b o hb x => by
          have hm : b ∉ [It + 1, It] := fun hm => by
            rcases List.mem_cons.mp hm with e | hm
            · exact absurd hb (Nat.not_lt.mpr (e ▸ Nat.le_succ _))
            · exact Nat.ne_of_lt hb (List.mem_singleton.mp hm)
          exact up₃ b o (k₂ b o hm (k₁ b o hm x))
        have F₃ : Fr (trunc s₀.heap Lg) Lg h₃ (mG t ta e up uc) := ⟨FC.ns.at' fun o x => old₃ _ o hLI x, fun b o x => old₃ b o (Nat.lt_trans (trunc_of x).2 hLI) (FC.keep b o x), FC.above⟩
        have N₃ : News (trunc s₀.heap Lg) Lg h₃ [(ag, oa)] := fun q hq => ⟨old₃ _ _ (by rw [List.mem_singleton.mp hq]; exact hlow') (NC q hq).1, (NC q hq).2⟩
        obtain ⟨⟨old₂, en₂⟩, it₂⟩ := st₂
        show wpAny _ _ (do holding [Value.str ⟨#[c']⟩ u] (assign (.Name (Str.ofString "pos") _) _ (.int i ti)); holding [] (assign (.Name (Str.ofString "ch") _) _ (.str ⟨#[c']⟩ u)); pure ()) _ _ _
        refine wpAny_bind (wpAny_holding (wpAny_assign_Name (wpAny_storeName_local rfl F₃.ns (fun h₄ hn₄ hs₄ => ?_) rfl)))
        replace hs₄ : Heap.SameBut Lg h₃ h₄ := hs₄
        have F₄ := F₃.set hn₄ hs₄
        refine wpAny_bind (wpAny_holding (wpAny_assign_Name (wpAny_storeName_local rfl F₄.ns (fun h₅ hn₅ hs₅ => wpAny_pure ?_) rfl)))
        replace hs₅ : Heap.SameBut Lg h₄ h₅ := hs₅
        have F₅ : Fr (trunc s₀.heap Lg) Lg h₅ (mG t ta e (some (.int i ti)) (some (.str ⟨#[c']⟩ u))) := frCongr (F₄.set hn₅ hs₅) fun y => by
          by_cases h1 : y = ("ch" : Str)
          · subst h1; rfl
          · by_cases h2 : y = ("pos" : Str)
            · subst h2; rfl
            · simp only [mG, if_neg h1, if_neg h2]
        have up₅ : ∀ (b : Addr) o, b ≠ Lg → h₃.get? b = some o → h₅.get? b = some o := fun b o hb x => hs₅.extBut b o hb (hs₄.extBut b o hb x)
        have en₅ : IsEnum h₅ (It + 1) It ((i + 1 : Nat) : Int) old₂ := up₅ _ _ (Nat.ne_of_gt (Nat.lt_succ_of_lt hLI)) (up₃ _ _ en₂)
        obtain ⟨oE, hoE⟩ : ∃ o, h₅.get? (It + 1) = some o := ⟨_, en₅⟩
        obtain ⟨oI, hoI₂, hoI'⟩ := it₂
        have hoI : h₅.get? It = some oI := up₅ _ _ (Nat.ne_of_gt hLI) (up₃ _ _ hoI₂)
        have enU : ∀ h' : Heap, h'.get? (It + 1) = some oE → IsEnum h' (It + 1) It ((i + 1 : Nat) : Int) old₂ := fun h' x => by
          have y : h₅.get? (It + 1) = some _ := en₅
          rw [hoE] at y
          show h'.get? (It + 1) = some _
          rw [x]; exact y
        have itU : ∀ h' : Heap, h'.get? It = some oI → h'.IsStrIter It (strIterType t) t ta (i + 1) := fun h' x => ⟨oI, x, hoI'⟩
        have N₅ : News (trunc s₀.heap Lg) Lg h₅ [(ag, oa), (It + 1, oE), (It, oI)] := fun q hq => by
          rcases List.mem_cons.mp hq with rfl | hq
          · exact ⟨up₅ _ _ (Nat.ne_of_gt hLa) (N₃ _ (.head _)).1, Nat.ne_of_gt hLa, trunc_none (Nat.le_of_lt hLa)⟩
          rcases List.mem_cons.mp hq with rfl | hq
          · exact ⟨hoE, Nat.ne_of_gt (Nat.lt_succ_of_lt hLI), trunc_none (Nat.le_of_lt (Nat.lt_succ_of_lt hLI))⟩
          · rw [List.mem_singleton.mp hq]
            exact ⟨hoI, Nat.ne_of_gt hLI, trunc_none (Nat.le_of_lt hLI)⟩
        have XB := hK.keeps (fun b o x => (trunc_get (n := Lg) (h := s₀.heap) (b := b) (Nat.lt_of_lt_of_le (Heap.lt_size x) hLg0)).trans (hbs b o x))
        have TB := hT.keeps (fun b o x => (trunc_get (n := Lg) (h := s₀.heap) (b := b) (Nat.lt_of_lt_of_le (Heap.lt_size x) hLg0)).trans (hbs b o x))
        have hrest' : r = t.cps.toList.drop (i + 1) := by
          have := congrArg List.tail hrest
          simpa [List.tail_drop] using this
        clear F₃ N₃ F₄ FC NC hTT hMid hT₂ hx₃ up₃ old₃ hs₄ hs₅ hn₄ hn₅ up₅ en₂ en₅ hoI₂ k₁ k₂ hen hit
        cases e with
        | true =>
          refine seg_execs_cons (seg_If ?_)
          k_steps
          refine seg_execs_cons (seg_Expr_Yield (n := (tokF r (i + 1) false).length) rfl rfl rfl ?_)
          k_steps
          rename Fr _ Lg _ _ => F6
          rename News _ Lg _ _ => N6
          rename Resume → Shared → Prop => kap
          rename ∀ _ _, _ → kap _ _ => hk'
          rename Obj.cls _ = _ ∧ _ => tu'
          rename @LT.lt Nat _ Lg _ => lo'
          refine yield_ok (hsz) (Nat.lt_succ_of_lt hLI) hLI F6 N6 hself tu' lo' hall rfl fun s3 F7 N7 self7 hb7 => hk' _ _ ?_
          clear F6 N6 XB TB hk'
          have XB := hK.keeps (fun b o x => (trunc_get (n := Lg) (h := s3.heap) (b := b) (Nat.lt_of_lt_of_le (Heap.lt_size x) hLg0)).trans (hb7 b o x))
          have TB := hT.keeps (fun b o x => (trunc_get (n := Lg) (h := s3.heap) (b := b) (Nat.lt_of_lt_of_le (Heap.lt_size x) hLg0)).trans (hb7 b o x))
          show Seg _ _ _ _ _ _ _ _ _ _
          refine seg_execs_cons (seg_stmt ?_)
          k_steps
          rename Fr _ Lg _ _ => F8
          rename News _ Lg _ _ => N8
          refine seg_execs_nil (seg_again rfl ?_)
          refine ih r (i + 1) false _ _ (Nat.lt_succ_self _) ⟨⟨_, _, rfl⟩, hrest', hilt, hb7, self7, ⟨done ++ [(_, _)], by rw [List.append_assoc]; exact hall⟩, hfin, ⟨some (.int i ti), some (.str ⟨#[c']⟩ u), frCongr F8 fun y => ?_⟩, fun q hq => N8 q (by rw [List.mem_singleton.mp hq]; exact .head _), ⟨_, enU _ (N8 _ (.tail _ (.head _))).1⟩, itU _ (N8 _ (.tail _ (.tail _ (.head _)))).1⟩
          by_cases h1 : y = ("escape" : Str)
          · subst h1; rfl
          · simp only [mG, if_neg h1]
        | false =>
          by_cases hc : c' = 92
          · subst hc
            have hbs2 : (⟨#[92]⟩ : Str) = Str.ofString "\\" := bs_iff.mpr rfl
            refine seg_execs_cons (seg_If ?_)
            k_steps
            refine seg_execs_cons (seg_If ?_)
            k_steps
            refine seg_execs_cons (seg_stmt ?_)
            k_steps
            rename Fr _ Lg _ _ => F8
            rename News _ Lg _ _ => N8
            refine seg_execs_nil (seg_again rfl ?_)
            refine ih r (i + 1) true _ _ (Nat.lt_succ_self _) ⟨⟨_, _, rfl⟩, hrest', hilt, hbs, hself, ⟨done, hall⟩, hfin, ⟨some (.int i ti), some (.str ⟨#[92]⟩ u), frCongr F8 fun y => ?_⟩, fun q hq => N8 q (by rw [List.mem_singleton.mp hq]; exact .head _), ⟨_, enU _ (N8 _ (.tail _ (.head _))).1⟩, itU _ (N8 _ (.tail _ (.tail _ (.head _)))).1⟩
            by_cases h1 : y = ("escape" : Str)
            · subst h1; rfl
            · simp only [mG, if_neg h1]
          · have hbs2 : ¬ ((⟨#[c']⟩ : Str) = Str.ofString "\\") := fun x => hc (bs_iff.mp x)
            refine seg_execs_cons (seg_If ?_)
            k_steps
            refine seg_execs_cons (seg_If ?_)
            k_steps
            · rename (_ == _) = true => hq
              exact absurd (eq_of_beq hq) hbs2
            · rw [tokF_ch hc] at hall ⊢
              refine seg_execs_cons (seg_Expr_Yield (n := (tokF r (i + 1) false).length) rfl rfl rfl ?_)
              k_steps
              rename Fr _ Lg _ _ => F6
              rename News _ Lg _ _ => N6
              rename Resume → Shared → Prop => kap
              rename ∀ _ _, _ → kap _ _ => hk'
              rename Obj.cls _ = _ ∧ _ => tu'
              rename @LT.lt Nat _ Lg _ => lo'
              refine yield_ok (hsz) (Nat.lt_succ_of_lt hLI) hLI F6 N6 hself tu' lo' hall rfl fun s3 F7 N7 self7 hb7 => hk' _ _ ?_
              clear F6 N6 XB TB hk'
              have hfin' : endE r false = false := by
                have : endE (c' :: r) false = endE r (decide (c' = 92)) := rfl
                rw [this, decide_eq_false hc] at hfin
                exact hfin
              refine seg_execs_nil (seg_again rfl ?_)
              refine ih r (i + 1) false _ _ (Nat.lt_succ_self _) ⟨⟨_, _, rfl⟩, hrest', hilt, hb7, self7, ⟨done ++ [(_, _)], by rw [List.append_assoc]; exact hall⟩, hfin', ⟨_, _, F7⟩, fun q hq => N7 q (by rw [List.mem_singleton.mp hq]; exact .head _), ⟨_, enU _ (N7 _ (.tail _ (.head _))).1⟩, itU _ (N7 _ (.tail _ (.tail _ (.head _)))).1⟩
    · by_cases h1 : y = ("escape" : Str)
      · subst h1; rfl
      · by_cases h2 : y = ("pos" : Str)
        · subst h2; rfl
        · by_cases h3 : y = ("ch" : Str)
          · subst h3; rfl
          · by_cases h4 : y = ("addr" : Str)
            · subst h4; rfl
            · simp only [mG, if_neg h1, if_neg h2, if_neg h3, if_neg h4]
              show (match y == Str.ofString "addr" with | true => _ | false => _) = _
              rw [beq_eq_false_iff_ne.mpr h4]
              rfl
end Mine

/-! EnumG -/
namespace Mine
/-- a turn's end: the iterator's own two objects still stand -/
noncomputable def TurnO (h₀ : Heap) (L e it : Addr) (oE oI : Obj) (Jn : (Str → Option Value) → List (Addr × Obj) → Prop) (s : Shared) (f : Flow) (s₂ : Shared) : Prop :=
  f = .next ∧ ∃ h' tk m' news', s₂ = { s with heap := h', toks := tk } ∧ Fr h₀ L h' m' ∧ News h₀ L h' ((e, oE) :: (it, oI) :: news') ∧ (∀ p ∈ news', p.1 ≠ e ∧ p.1 ≠ it) ∧ Jn m' news'
theorem TurnO.intro {h₀ h' : Heap} {L e it : Addr} {oE oI : Obj} {Jn : (Str → Option Value) → List (Addr × Obj) → Prop} {s : Shared} {tk : Nat} {m' : Str → Option Value} {news' big : List (Addr × Obj)}
    (F : Fr h₀ L h' m') (N : News h₀ L h' big) (sub : ∀ p ∈ (e, oE) :: (it, oI) :: news', p ∈ big) (off : ∀ p ∈ news', p.1 ≠ e ∧ p.1 ≠ it) (hj : Jn m' news') : TurnO h₀ L e it oE oI Jn s .next { s with heap := h', toks := tk } :=
  ⟨rfl, h', tk, m', news', rfl, F, fun p hp => N p (sub p hp), off, hj⟩
section
variable {prog : Program} {w : World} {A : Around} {E : Value → Shared → Prop} {s : Shared} {env : Env} {h₀ : Heap} {body orelse : List Stmt} {Q : Flow → Shared → Prop}
theorem enumG {xi xc : Str} {pk pv pt : Pos} {x1 : Nat} {l : Addr} {its : Array Value} {m₀ : Str → Option Value} {news : List (Addr × Obj)}
    (hh : A.handled = none) (hxi : env.kindOf xi = some .local) (hxc : env.kindOf xc = some .local) (hp : (env.scope.kind == .class || (env.scope.kind == .module && env.locals != env.globals)) = false)
    (F : Fr h₀ env.locals s.heap m₀) (N : News h₀ env.locals s.heap news)
    (J : Nat → (Str → Option Value) → List (Addr × Obj) → Prop) (hsrc : ∀ i m nw, J i m nw → LCg.SrcAt h₀ l its nw) (h0 : J 0 m₀ news)
    (step : ∀ i v ti m₁ news₁ h tk e it oE oI, its[i]? = some v → J i m₁ news₁ → (∀ p ∈ news₁, p.1 ≠ e ∧ p.1 ≠ it) → e ≠ it → Fr h₀ env.locals h (fun y => if y = xc then some v else if y = xi then some (.int (i : Int) ti) else m₁ y) → News h₀ env.locals h ((e, oE) :: (it, oI) :: news₁) →
      wpAny (model prog w) A (execs body env) (TurnO h₀ env.locals e it oE oI (J (i + 1)) { s with heap := h, toks := tk }) E { s with heap := h, toks := tk })
    (done : ∀ h' tk m' news', Fr h₀ env.locals h' m' → News h₀ env.locals h' news' → J its.size m' news' → wpAny (model prog w) A (execs orelse env) Q E { s with heap := h', toks := tk })
    (hE : PassesOwn (model prog w) A env E := by passes_own) :
    wpAny (model prog w) A (call (.type "enumerate") [.ref l]) (fun xv s₁ => Hold (wpAny (model prog w) A (pyIter xv) (LoopC prog w A (.Tuple [.Name xi pk, .Name xc pv] x1 pt) body orelse env Q E) E s₁)) E s := by
  have hls : s.heap.IsList l its := (hsrc _ _ _ h0).list F.keep N
  have hlt : l < s.heap.objs.size := by obtain ⟨_, e, _⟩ := hls; exact Heap.lt_size e
  refine call_enumerate_list hls fun h₁ he hit hsz up1 => hold (wpAny_pyIter_enum he ?_)
  generalize hIt : s.heap.objs.size = It at *
  have hLI : @LT.lt Nat _ env.locals It := by rw [← hIt]; exact F.ns.lt
  have hI0 : h₀.get? It = none := by rw [← hIt]; exact none_ge F (Nat.le_refl _)
  have hE0 : h₀.get? (It + 1) = none := by rw [← hIt]; exact none_ge F (Nat.le_succ _)
  have W := Walks.list (prog := prog) (w := w) (A := A) hh It l (Nat.ne_of_lt hlt) its
  have WT := WalksT.enumerateD (prog := prog) (w := w) (A := A) (Draws.list (A := A.in1) hh It l (Nat.ne_of_lt hlt) its) (It + 1) (Nat.succ_ne_self _) (fun hm => by
    rcases List.mem_cons.mp hm with e | hm
    · exact Nat.succ_ne_self _ e
    · exact Nat.ne_of_gt (Nat.lt_succ_of_lt hlt) (List.mem_singleton.mp hm)) (.head _)
  have offN : ∀ p ∈ news, p.1 ≠ It + 1 ∧ p.1 ≠ It := fun p hp => by
    have := lt_of_get (N p hp).1
    rw [hIt] at this
    exact ⟨Nat.ne_of_lt (Nat.lt_succ_of_lt this), Nat.ne_of_lt this⟩
  have nm : ∀ b : Addr, b ≠ It + 1 → b ≠ It → b ∉ [It + 1, It] := fun b h1 h2 hm => by
    rcases List.mem_cons.mp hm with e | hm
    · exact h1 e
    · exact h2 (List.mem_singleton.mp hm)
  have upF : ∀ (h h' : Heap) (m : Str → Option Value) (nw : List (Addr × Obj)), (∀ p ∈ nw, p.1 ≠ It + 1 ∧ p.1 ≠ It) → Fr h₀ env.locals h m → News h₀ env.locals h nw → (∀ b o, b ∉ [It + 1, It] → h.get? b = some o → h'.get? b = some o) → Fr h₀ env.locals h' m ∧ News h₀ env.locals h' nw := by
    intro h h' m nw off F N k
    refine ⟨⟨F.ns.at' fun o x => k _ o (nm _ (Nat.ne_of_lt (Nat.lt_succ_of_lt hLI)) (Nat.ne_of_lt hLI)) x, fun b o x => k b o (nm b (fun q => by rw [q, hE0] at x; cases x) (fun q => by rw [q, hI0] at x; cases x)) (F.keep b o x), F.above⟩, fun p hp => ⟨k _ _ (nm _ (off p hp).1 (off p hp).2) (N p hp).1, (N p hp).2⟩⟩
  show codeAny _ _ _ _ _
  refine codeAny_forLoop_any
    (fun k s' => ∃ (h' : Heap) (tk : Nat) (m' : Str → Option Value) (news' : List (Addr × Obj)) (i : Nat), s' = { s with heap := h', toks := tk } ∧ ((∃ old, IsEnum h' (It + 1) It i old) ∧ h'.IsListIter It l i) ∧ Fr h₀ env.locals h' m' ∧ News h₀ env.locals h' news' ∧ (∀ p ∈ news', p.1 ≠ It + 1 ∧ p.1 ≠ It) ∧ J i m' news' ∧ i ≤ its.size ∧ k = its.size + 1 - i) ?_ (its.size + 1)
    ⟨h₁, s.toks, m₀, news, 0, rfl, ⟨⟨_, by simpa using he⟩, hit⟩, F.keeps up1, N.grown up1, offN, h0, Nat.zero_le _, rfl⟩
  intro k s' hq0
  refine ex5 hq0 fun h' tk m' news' i hq => ?_
  have qb0 := hq.1
  have hst' := hq.2.1
  have F' := hq.2.2.1
  have N' := hq.2.2.2.1
  have hoff := hq.2.2.2.2.1
  have hJ := hq.2.2.2.2.2.1
  have hi := hq.2.2.2.2.2.2.1
  have qb7 := hq.2.2.2.2.2.2.2
  clear hq hq0
  subst qb0
  subst qb7
  have hl' := (hsrc _ _ _ hJ).list F'.keep N'
  by_cases hlt' : i < its.size
  · refine WT.item i _ _ _ hlt' ⟨hst'.1, hst'.2, hl'⟩ fun T vals h₁ tk₁ hPt _ hT hMid k₁ => ?_
    obtain ⟨ti, v, hv, rfl⟩ := hPt
    refine WT.go _ _ _ i T _ _ _ hMid fun h₂ st₂ k₂ => ?_
    have hT₂ : h₂.IsTuple T #[.int i ti, v] := hT.at fun o x => k₂ T o (WT.apart i T h₁ hMid) x
    refine wpAny_assign_Tuple hh hT₂ rfl rfl fun h₃ hx₃ => ?_
    replace hx₃ : Heap.ExtBut h₂.objs.size h₂ h₃ := hx₃
    have up₃ : ∀ b o, h₂.get? b = some o → h₃.get? b = some o := fun b o x => hx₃ b o (Nat.ne_of_lt (Heap.lt_size x)) x
    obtain ⟨F₃, N₃⟩ := upF _ h₃ _ _ hoff F' N' fun b o hb x => up₃ b o (k₂ b o hb (k₁ b o hb x))
    show wpAny _ A (do holding [v] (assign (.Name xi pk) env (.int i ti)); holding [] (assign (.Name xc pv) env v); pure ()) _ _ _
    refine wpAny_bind (wpAny_holding (wpAny_assign_Name (wpAny_storeName_local hxi F₃.ns (fun h₄ hn₄ hs₄ => ?_) hp)))
    replace hs₄ : Heap.SameBut env.locals h₃ h₄ := hs₄
    have F₄ := F₃.set hn₄ hs₄
    refine wpAny_bind (wpAny_holding (wpAny_assign_Name (wpAny_storeName_local hxc F₄.ns (fun h₅ hn₅ hs₅ => wpAny_pure ?_) hp)))
    replace hs₅ : Heap.SameBut env.locals h₄ h₅ := hs₅
    have F₅ := F₄.set hn₅ hs₅
    have up₅ : ∀ (b : Addr) o, b ≠ env.locals → h₃.get? b = some o → h₅.get? b = some o := fun b o hb x => hs₅.extBut b o hb (hs₄.extBut b o hb x)
    obtain ⟨⟨old₂, en₂⟩, ⟨oI, hoI₂, hoI'⟩, _⟩ := st₂
    have en₅ : IsEnum h₅ (It + 1) It ((i + 1 : Nat) : Int) old₂ := up₅ _ _ (Nat.ne_of_gt (Nat.lt_succ_of_lt hLI)) (up₃ _ _ en₂)
    obtain ⟨oE, hoE⟩ : ∃ o, h₅.get? (It + 1) = some o := ⟨_, en₅⟩
    have hoI : h₅.get? It = some oI := up₅ _ _ (Nat.ne_of_gt hLI) (up₃ _ _ hoI₂)
    refine wpAny_mono (step i v ti m' news' h₅ _ (It + 1) It oE oI hv hJ hoff (Nat.succ_ne_self _) F₅ fun q hq => ?_) (fun f s₄ q => ?_) hE
    · rcases List.mem_cons.mp hq with rfl | hq
      · exact ⟨hoE, Nat.ne_of_gt (Nat.lt_succ_of_lt hLI), hE0⟩
      rcases List.mem_cons.mp hq with rfl | hq
      · exact ⟨hoI, Nat.ne_of_gt hLI, hI0⟩
      · exact ⟨up₅ _ _ (N₃ q hq).2.1 (N₃ q hq).1, (N₃ q hq).2⟩
    · have qa0 := q.1
      refine ex4 q.2 fun h₆ tk₆ m₆ news₆ hq => ?_
      have qb0 := hq.1
      have F₆ := hq.2.1
      have N₆ := hq.2.2.1
      have off₆ := hq.2.2.2.1
      have hj₆ := hq.2.2.2.2
      clear hq q
      subst qa0
      subst qb0
      refine ⟨its.size + 1 - (i + 1), dec_lt (by assumption), h₆, tk₆, m₆, news₆, i + 1, rfl, ⟨⟨old₂, ?_⟩, ⟨oI, (N₆ _ (.tail _ (.head _))).1, hoI'⟩⟩, F₆, fun q hq => N₆ q (.tail _ (.tail _ hq)), off₆, hj₆, hlt', rfl⟩
      have y : h₅.get? (It + 1) = some _ := en₅
      rw [hoE] at y
      show h₆.get? (It + 1) = some _
      rw [(N₆ _ (.head _)).1]; exact y
  · have hin : i = its.size := at_end (by assumption) (by assumption)
    subst hin
    refine WT.done _ _ _ ⟨hst'.1, hst'.2, hl'⟩ fun h₂ tk₂ k₂ => ?_
    obtain ⟨F₂, N₂⟩ := upF _ h₂ _ _ hoff F' N' k₂
    exact wpAny_mono (done h₂ tk₂ m' news' F₂ N₂ hJ) (fun _ _ x => x) hE
end
end Mine

/-! LawB -/
namespace Mine
section
variable {prog : Program} {w : World} {A : Around} {h₀ : Heap} {L : Addr} {m : Str → Option Value} {env : Env} {elt : PySem.Expr} {x : Str} {scope : Scope} {cl : List (Str × Addr)} {s : Shared} {S : List (Addr × Obj) → Prop} {P : Nat → Value → Prop}
  {Fin : List Value → List (Addr × Obj) → Prop} {news : List (Addr × Obj)} {n : Nat}
/-- [elt for x in ..]: the ledger stays -/
theorem restU (G : Nat → Value → Prop) (hS : S news)
    (turn : ∀ i v I oI C oC D m₂ ys h tk (E' : Value → Shared → Prop), i < n → P i v → LCg.NsObj oC m₂ → m₂ x = some v → Fr h₀ L h m → News h₀ L h ((I, oI) :: (C, oC) :: (D, LCg.lst ys) :: news) → LCg.Off3 I C D news → ((@Ne Nat I C) ∧ (@Ne Nat I D) ∧ (@Ne Nat C D)) →
      wpAny (model prog w) A (eval elt (compEnvC scope cl C env)) (TEnd h₀ L m { s with heap := h, toks := tk } ((I, oI) :: (C, oC) :: (D, LCg.lst ys) :: news) (G i)) E' { s with heap := h, toks := tk })
    (fin : ∀ ys, Paired G (List.range n) ys → Fin ys news) : LCg.CompRest prog w A h₀ L m env elt x scope cl s S P Fin n 0 [] news := by
  have key : ∀ (j i : Nat) (ys : List Value), i + j = n → Paired G (List.range i) ys → LCg.CompRest prog w A h₀ L m env elt x scope cl s S P Fin j i ys news := by
    intro j
    induction j with
    | zero =>
      intro i ys hi hy
      have e : i = n := by omega
      subst e
      exact LCg.CompRest.zero (fin ys hy)
    | succ j ih =>
      intro i ys hi hy
      refine LCg.CompRest.succ ?_
      intro v I oI C oC D m₂ h tk E' hv hC hx F N off ne
      refine wpAny_mono (turn i v I oI C oC D m₂ ys h tk E' (by omega) hv hC hx F N off ne) (fun y s' q => ?_) fun _ _ e => e
      obtain ⟨h', tk', e, F', N', g⟩ := q
      refine ⟨h', tk', news, e, F', N', off, hS, ih (i + 1) _ (by omega) ?_⟩
      rw [List.range_succ]
      exact Paired.snoc hy g
  exact key n 0 [] (by omega) .nil
end
theorem compTurn_two0 (elt t0 i0 t1 i1 : PySem.Expr) (ifs : List PySem.Expr) (scope : Scope) (pos : Pos) (it acc : Value) (env : Env) :
    compTurn (.ListComp elt [⟨t0, i0, [], 0⟩, ⟨t1, i1, ifs, 0⟩] scope pos) 0 it acc env = (do
      standAt i0.pos
      match ← pyNext it with
      | none => pure (.done .next)
      | some v =>
        letOwnedTupleGo t0 it v
        assign t0 env v
        let x ← eval i1 env
        standAt i1.pos
        let x ← foldedSetIterable i1 env x
        let _ ← runOwn (.compStart (.ListComp elt [⟨t0, i0, [], 0⟩, ⟨t1, i1, ifs, 0⟩] scope pos) 1 (← holding [x] (pyIter x)) acc env) env
        again (.compLoop (.ListComp elt [⟨t0, i0, [], 0⟩, ⟨t1, i1, ifs, 0⟩] scope pos) 0 it acc env)) := by rfl
theorem compTurn_two1 (elt t0 i0 t1 i1 : PySem.Expr) (ifs : List PySem.Expr) (scope : Scope) (pos : Pos) (it acc : Value) (env : Env) :
    compTurn (.ListComp elt [⟨t0, i0, [], 0⟩, ⟨t1, i1, ifs, 0⟩] scope pos) 1 it acc env = (do
      standAt i1.pos
      match ← pyNext it with
      | none => pure (.done .next)
      | some v =>
        letOwnedTupleGo t1 it v
        assign t1 env v
        let mut ok := true
        for c in ifs do
          if ok then ok ← isTrue c env (eval c env)
        if ok then
          (do let _ ← call (.builtin "list.append") [acc, ← eval elt env])
        again (.compLoop (.ListComp elt [⟨t0, i0, [], 0⟩, ⟨t1, i1, ifs, 0⟩] scope pos) 1 it acc env)) := by rfl
end Mine

namespace Mine
section
local macro_rules | `(tactic| walk_at $s:str) => kP s [("pyIter ref", kH), ("subscriptTail", kA ``item_baseA), ("exec For Name Call cons nil", kH)]

/-! CallsC -/
section
theorem four {α : Type} {f : Nat → α} {i : Nat} (h : i < 4) : [f 0, f 1, f 2, f 3][((0 : Int) + (i : Int)).toNat]? = some (f i) := by
  have : i = 0 ∨ i = 1 ∨ i = 2 ∨ i = 3 := lt4 (by first | assumption | omega)
  rcases this with rfl | rfl | rfl | rfl <;> rfl
noncomputable def rowL (nm : Nat → Str) (W : Nat → Int) (n : Nat) : List (Str × Int) := ((List.range n).filter fun j => decide (0 < W j)).map fun j => (nm j, W j)
/-- a range loop whose turns leave the locals as they were -/
theorem iter_rangeM {prog : Program} {w : World} {A : Around} {E : Value → Shared → Prop} {s : Shared} {env : Env} {h₀ : Heap} {target : PySem.Expr} {body : List Stmt} {Q : Flow → Shared → Prop} {r : Addr} {a₀ b₀ : Int} {t₀ u₀ v₀ : Tok} {n : Nat} {m₀ : Str → Option Value} {news : List (Addr × Obj)}
    (hh : A.handled = none) (hr : IsRange s.heap r a₀ b₀ 1 t₀ u₀ v₀) (hsmall : Builtin.Range.small a₀ b₀ 1 = true) (hn : Builtin.Range.rangeSize a₀ b₀ 1 = (n : Int)) (F : Fr h₀ env.locals s.heap m₀) (N : News h₀ env.locals s.heap news)
    (J : Nat → List (Addr × Obj) → Prop) (h0 : J 0 news)
    (step : ∀ i tv news₁ s₁ I oI, i < n → J i news₁ → (∀ p ∈ news₁, p.1 ≠ I) → Fr h₀ env.locals s₁.heap m₀ → News h₀ env.locals s₁.heap ((I, oI) :: news₁) →
      wpAny (model prog w) A (assign target env (.int (a₀ + (i : Int)) tv)) (fun _ s₃ => wpAny (model prog w) A (execs body env) (TurnE h₀ env.locals I oI (fun m' nw => m' = m₀ ∧ J (i + 1) nw) s₁) E s₃) E s₁)
    (done : ∀ h' tk news', Fr h₀ env.locals h' m₀ → News h₀ env.locals h' news' → J n news' → Q .next { s with heap := h', toks := tk }) :
    wpAny (model prog w) A (pyIter (.ref r)) (fun it s₂ => LoopAtT prog w A h₀ env target body Q E it s₂) E s := by
  refine iter_rangeT hh hr hsmall hn F N (fun i m nw => m = m₀ ∧ J i nw) ⟨rfl, h0⟩ ?_ ?_
  · rintro i tv m₁ news₁ s₁ I oI hi ⟨rfl, hJ⟩ hoff F₁ N₁
    exact step i tv news₁ s₁ I oI hi hJ hoff F₁ N₁
  · rintro h' tk m' news' F' N' ⟨rfl, hJ⟩
    exact done h' tk news' F' N' hJ
theorem valueAt_stored (kvs : List (Str × Value)) (k k' : Str) (v : Value) : valueAt (stored kvs k v) k' = if k' = k then some v else valueAt kvs k' := by
  unfold stored
  by_cases ha : kvs.any (fun kv => decide (kv.1 = k)) = true
  · rw [if_pos ha]
    induction kvs with
    | nil => cases ha
    | cons p kvs ih =>
      unfold valueAt at ih ⊢
      rw [List.map_cons, List.find?_cons, List.find?_cons]
      by_cases e : p.1 = k
      · by_cases e' : k' = k
        · subst e'; simp [e]
        · have : ¬ k = k' := fun x => e' x.symm
          simp only [e, if_true, this, decide_false, if_neg e']
          clear ih ha
          induction kvs with
          | nil => rfl
          | cons q kvs ih =>
            rw [List.map_cons, List.find?_cons, List.find?_cons]
            by_cases eq : q.1 = k
            · simpa [eq, this] using ih
            · by_cases eq' : q.1 = k'
              · simp [eq, eq', e']
              · simpa [eq, eq'] using ih
      · have ha' : kvs.any (fun kv => decide (kv.1 = k)) = true := by simpa [e] using ha
        by_cases e' : p.1 = k'
        · have : ¬ k' = k := fun x => e (e'.trans x)
          simp [e, e', this]
        · simpa [e, e'] using ih ha'
  · rw [if_neg ha]
    have hn : valueAt kvs k = none := by
      have := valueAt_any kvs k
      cases q : valueAt kvs k with
      | none => rfl
      | some v => rw [q] at this; exact absurd this ha
    unfold valueAt at hn ⊢
    rw [List.find?_append]
    by_cases e : k' = k
    · subst e
      have hn' : List.find? (fun kv => decide (kv.1 = k')) kvs = none := by simpa using hn
      simp [hn']
    · have : ¬ k = k' := fun x => e x.symm
      cases List.find? (fun kv => decide (kv.1 = k')) kvs <;> simp [e, this]
theorem stored_len (kvs : List (Str × Value)) (k : Str) (v : Value) : (stored kvs k v).length ≤ kvs.length + 1 := by
  unfold stored; split <;> simp
theorem rowL_succ_pos {nm : Nat → Str} {W : Nat → Int} {n : Nat} (h : 0 < W n) : rowL nm W (n + 1) = rowL nm W n ++ [(nm n, W n)] := by
  unfold rowL; rw [List.range_succ, List.filter_append, List.map_append]; simp [h]
theorem rowL_succ_neg {nm : Nat → Str} {W : Nat → Int} {n : Nat} (h : ¬ 0 < W n) : rowL nm W (n + 1) = rowL nm W n := by
  unfold rowL; rw [List.range_succ, List.filter_append, List.map_append]; simp [h]
theorem rowL_look {nm : Nat → Str} {W : Nat → Int} {n : Nat} {k : Str} (h : ∀ j, j < n → nm j ≠ k) : lookI (rowL nm W n) k = none := by
  unfold lookI
  rw [Option.map_eq_none_iff, List.find?_eq_none]
  intro p hp
  unfold rowL at hp
  obtain ⟨j, hj, rfl⟩ := List.mem_map.mp hp
  have := List.mem_range.mp (List.mem_filter.mp hj).1
  simpa using h j this
theorem rowL_length (nm : Nat → Str) (W : Nat → Int) (n : Nat) : (rowL nm W n).length ≤ n := by
  unfold rowL
  rw [List.length_map]
  exact Nat.le_trans (List.length_filter_le _ _) (by simp)
theorem IntKvs.put_new {kvs : List (Str × Value)} {is : List (Str × Int)} (h : IntKvs kvs is) {k : Str} {y : Int} {t : Tok} (hl : lookI is k = none) : IntKvs (stored kvs k (.int y t)) (is ++ [(k, y)]) := by
  have := h.put_none (y := y) (t := t) hl
  unfold addI at this
  rw [hl] at this
  exact this
local macro_rules | `(tactic| walk_at $s:str) => kP s [("eval DictComp", kA ``DictComp_D)]
theorem c_calls : ∀ (w : World) (loose : List Str) (mean : ExcName → Option Value) (mg mb : Str → Option Value) (dp un : Nat) (gd : Option (List Code)) (cn : Str) (cs : Scope) (a : Addr) (ccd : Value) (cl : List (Str × Addr)) (outer : List Env) (A₀ : Around) (base h₀ : Heap) (L : Addr) (m : Str → Option Value) (s : Shared) (Q E : Value → Shared → Prop) (ln lw : Addr) (nm : Nat → Str) (nt : Nat → Tok) (ra : Nat → Addr) (W : Nat → Nat → Int) (wt : Nat → Nat → Tok),
    Site w (hd.heap_39 w.params) loose mean mg mb dp un cs outer A₀ base h₀ L m 20 s → s.heap.IsList ln [.str (nm 0) (nt 0), .str (nm 1) (nt 1), .str (nm 2) (nt 2), .str (nm 3) (nt 3)].toArray →
    s.heap.IsList lw [.ref (ra 0), .ref (ra 1), .ref (ra 2), .ref (ra 3)].toArray → (∀ i, i < 4 → s.heap.IsList (ra i) [.int (W i 0) (wt i 0), .int (W i 1) (wt i 1), .int (W i 2) (wt i 2), .int (W i 3) (wt i 3)].toArray) →
    (∀ i j, i < 4 → j < 4 → nm i = nm j → i = j) →
    (∀ (h' : Heap) (tk' : Nat) (d : Addr) (kc : List (Str × Value)), (∀ b o, s.heap.get? b = some o → h'.get? b = some o) → (d == sysModules) = false → s.heap.get? d = none → h'.DictOf (strKind PySem.Challenge.rw_zo0006_01.row.prog w) d kc →
      (∀ k v, valueAt kc k = some v → ∃ r D kd, r < 4 ∧ k = nm r ∧ v = .ref D ∧ (D == sysModules) = false ∧ s.heap.get? D = none ∧ h'.DictOf (strKind PySem.Challenge.rw_zo0006_01.row.prog w) D kd ∧ IntKvs kd (rowL nm (W r) 4)) →
      (∀ r, r < 4 → valueAt kc (nm r) ≠ none) → 
      Q (.ref d) { s with heap := h', toks := tk' }) →
      wpAny (model PySem.Challenge.rw_zo0006_01.row.prog w) (ktrTop dp un gd cn cs L a ccd cl outer) (call (.ref 62) [.ref ln, .ref lw]) Q E s := by
  k_fill
  w_top off
  intro w loose mean mg mb dp un gd cn cs a ccd cl outer A₀ base h₀ L m s Q E ln lw nm nt ra W wt S hln hlw hrow hnm hret
  obtain ⟨hB, hF, hK, hT, hk, hdp, hun⟩ := S
  refine wpAny_call (enter0C (binds := [("names", .ref ln), ("wires", .ref lw)]) hB hF hK hT rfl rfl hk (by k_is) (by k_is) (by ktr_room) (BindsTo.of_eq rfl) (by rfl) (by decide +kernel) ?_ rfl rfl rfl)
  intro L' h₁ tk cells F1 N1 Y1 B1 X1 T1 st1
  k_cells Y1
  dsimp only
  show wpAny _ _ _ _ _ _
  k_fold
  k_steps
  unfold Hold
  rename Fr s.heap _ _ _ => F2
  rename News s.heap _ _ _ => N2
  rename Obj.IsDictOf (strKind _ _) _ _ => D2
  rename Addr => dn
  rename (_ == sysModules) = false => lon
  rename @LT.lt Nat _ _ dn ∧ _ => l1
  refine For_invTF F2 ?_ (by intro _; rfl)
  k_steps
  rename IsRange _ _ _ _ _ _ _ _ => R3
  rename News s.heap _ _ _ => N3
  rename Fr s.heap _ _ _ => F3
  unfold Hold
  refine iter_rangeM (n := 4) (by rfl) R3 (by decide) (by rfl) F3 N3 (fun i nw => Hold (∃ (oR oW oN oD : Obj) (kc : List (Str × Value)) (more : List (Addr × Obj)), nw = (dn, oD) :: (L' + 1 + 1 + 1, oR) :: (L' + 1 + 1, oW) :: (L' + 1, oN) :: more ∧ (∃ v, oR.data = .cell v) ∧ oW.data = .cell (some (.ref lw)) ∧ oN.data = .cell (some (.ref ln)) ∧
    oD.IsDictOf (strKind PySem.Challenge.rw_zo0006_01.row.prog w) kc ∧ kc.length ≤ i ∧ (∀ p ∈ more, p.1 ≠ dn ∧ p.1 ≠ L' + 1 + 1 + 1) ∧
    (∀ k v, valueAt kc k = some v → ∃ r D oR kd, r < i ∧ k = nm r ∧ v = .ref D ∧ (D == sysModules) = false ∧ (D, oR) ∈ more ∧ oR.IsDictOf (strKind PySem.Challenge.rw_zo0006_01.row.prog w) kd ∧ IntKvs kd (rowL nm (W r) 4)) ∧
    (∀ r, r < i → valueAt kc (nm r) ≠ none))) ?_ ?_ ?_
  · refine ⟨_, _, _, _, [], [], rfl, ⟨_, by assumption⟩, by assumption, by assumption, D2, Nat.le_refl _, by simp, ?_, by simp⟩
    intro k v e
    cases e
  · intro i tv nw s₁ I oI hi hJ hoff F4 N4
    refine ex6 hJ fun oR oW oN oD kc more hq => ?_
    have qb0 := hq.1
    have qc1 := hq.2.1
    have hcW := hq.2.2.1
    have hcN := hq.2.2.2.1
    have hD4 := hq.2.2.2.2.1
    have hkl := hq.2.2.2.2.2.1
    have hoff2 := hq.2.2.2.2.2.2.1
    have hall := hq.2.2.2.2.2.2.2.1
    have hhas := hq.2.2.2.2.2.2.2.2
    clear hq hJ
    subst qb0
    obtain ⟨cv, hcR⟩ := qc1
    clear D2 F3 N3 R3
    have hrow4 := hrow i hi
    have e1 := four (f := fun i => Value.ref (ra i)) hi
    have e2 := four (f := fun i => Value.str (nm i) (nt i)) hi
    have hIR : I ≠ L' + 1 + 1 + 1 := Ne.symm (hoff (L' + 1 + 1 + 1, oR) (by simp))
    have hId : I ≠ dn := Ne.symm (hoff (dn, oD) (by simp))
    have hdR : dn ≠ L' + 1 + 1 + 1 := Nat.ne_of_gt l1.1
    refine wpAny_assign_Name (storeX_C F4 N4 (c := L' + 1 + 1 + 1) (by rfl) (UpdF.tail hIR (UpdF.tail hdR (UpdF.head fun p hp => ?_))) hcR ?_ rfl rfl)
    · rcases List.mem_cons.mp hp with rfl | hp
      · exact Nat.ne_of_lt (Nat.lt_succ_self _)
      rcases List.mem_cons.mp hp with rfl | hp
      · exact Nat.ne_of_lt (Nat.lt_succ_of_lt (Nat.lt_succ_self _))
      · exact (hoff2 p hp).2
    clear F4 N4 hcR
    intro h5 oR5 F5 N5 hcR
    have N5 := id N5
    k_steps
    rename IsRange _ _ _ _ _ _ _ _ => R6
    rename News s.heap _ _ _ => N6
    rename Fr s.heap _ _ _ => F6
    unfold Hold
    refine iter_rangeD (n := 4) (strKind _ _) (fun j kvs => IntKvs kvs (rowL nm (W i) j)) (by rfl) R6 (by decide) (by rfl) (Nat.le_of_ble_eq_true rfl) F6 N6 rfl ?_ ?_ ?_
    · intro j kvs hj
      rw [hj.length]
      exact rowL_length _ _ _
    · rintro s₂ ⟨h2, rfl⟩ j v I' oI' C' oC' D' oD' kvs m' h7 tk7 E' hj ⟨t, rfl⟩ hJ hD' hC' hx' F7 N7 off7 ne7
      clear F6 N6 R6
      have e3 := four (f := fun j => Value.int (W i j) (wt i j)) hj
      have e4 := four (f := fun i => Value.str (nm i) (nt i)) hj
      k_steps
      · rename 0 < W i j => hp
        refine ⟨_, _, rfl, F7, N7, nm j, strKind_is _ _ _ _, ?_⟩
        show IntKvs _ (rowL nm (W i) (j + 1))
        rw [rowL_succ_pos hp]
        exact hJ.put_new (rowL_look fun j' hj' e => Nat.ne_of_lt hj' (hnm j' j (by omega) hj e))
      · rename ¬ 0 < W i j => hp
        refine ⟨_, _, rfl, F7, N7, ?_⟩
        show IntKvs _ (rowL nm (W i) (j + 1))
        rw [rowL_succ_neg hp]
        exact hJ
    · intro D' oD' kvs h7 tk7 hLD F7 N7 hD7 off7 hJ7
      clear F6 N6 R6
      k_steps
      refine set_own (knd := strKind _ _) F7 (d := dn) (o := oD) (own := (I, oI) :: (L' + 1 + 1 + 1, oR5) :: (L' + 1 + 1, oW) :: (L' + 1, oN) :: (D', oD') :: more) (news_cons N7 (mem_at 2 rfl) (news_cons N7 (mem_at 1 rfl) (news_cons N7 (mem_at 3 rfl) (news_cons N7 (mem_at 4 rfl) (news_cons N7 (mem_at 5 rfl) (news_cons N7 (mem_at 0 rfl) (news_drop 6 N7))))))) ?_ hD4 (strKind_is _ _ _ _) (by rw [sizeLine_eq]; omega) ?_
      · have hall : ∀ p ∈ (I, oI) :: (L' + 1 + 1 + 1, oR5) :: (L' + 1 + 1, oW) :: (L' + 1, oN) :: (D', oD') :: more, p.1 ≠ dn := off_cons (x := dn) hId (off_cons (Ne.symm hdR) (off_cons (Nat.ne_of_lt l1.2.1) (off_cons (Nat.ne_of_lt l1.2.2) (off_cons (Ne.symm off7.2.1) (fun p hp => (hoff2 p hp).1)))))
        intro p hp b hb
        rw [List.mem_singleton.mp hb]
        exact hall p hp
      · intro h8 oD8 F8 N8 hD8
        k_steps
        refine TurnE.intro F8 N8 (news' := (dn, oD8) :: (L' + 1 + 1 + 1, oR5) :: (L' + 1 + 1, oW) :: (L' + 1, oN) :: (D', oD') :: more) mem_swap (fun p hp => ?_) ⟨rfl, oR5, oW, oN, oD8, _, (D', oD') :: more, rfl, ⟨_, hcR⟩, hcW, hcN, hD8, Nat.le_trans (stored_len _ _ _) (Nat.succ_le_succ hkl), ?_, ?_, ?_⟩
        · have hall : ∀ p ∈ (dn, oD8) :: (L' + 1 + 1 + 1, oR5) :: (L' + 1 + 1, oW) :: (L' + 1, oN) :: (D', oD') :: more, p.1 ≠ I := off_cons (x := I) (Ne.symm hId) (off_cons (Ne.symm hIR) (off_cons (hoff (L' + 1 + 1, oW) (mem_at 2 rfl)) (off_cons (hoff (L' + 1, oN) (mem_at 3 rfl)) (off_cons (Ne.symm off7.1) (fun p hp => hoff p (.tail _ (.tail _ (.tail _ (.tail _ hp)))))))))
          exact hall p hp
        · intro p hp
          rcases List.mem_cons.mp hp with rfl | hp
          · exact ⟨Ne.symm off7.2.1, Ne.symm off7.2.2.1⟩
          · exact hoff2 p hp
        · intro k v e
          rw [valueAt_stored] at e
          by_cases ek : k = nm i
          · rw [if_pos ek] at e
            cases e
            refine ⟨i, D', oD', kvs, Nat.lt_succ_self _, ek, rfl, ?_, .head _, hD7, hJ7⟩
            exact beq_eq_false_iff_ne.mpr (Nat.ne_of_gt (Nat.lt_trans (modules_low hT.nolimit) (Nat.lt_of_le_of_lt (Nat.le_trans (Nat.le_of_lt (Nat.lt_of_le_of_lt hF.above hF.ns.lt)) F7.above) hLD)))
          · rw [if_neg ek] at e
            obtain ⟨r, D, oR, kd, h1, h2, h3, h4, h5, h6, h7⟩ := hall k v e
            exact ⟨r, D, oR, kd, Nat.lt_succ_of_lt h1, h2, h3, h4, .tail _ h5, h6, h7⟩
        · intro r hr
          rw [valueAt_stored]
          by_cases e : nm r = nm i
          · rw [if_pos e]; simp
          · rw [if_neg e]
            exact hhas r (Nat.lt_of_le_of_ne (Nat.le_of_lt_succ hr) fun q => e (by rw [q]))
  · intro h' tk' nw F4 N4 hJ
    refine ex6 hJ fun oR oW oN oD kc more hq => ?_
    have qb0 := hq.1
    have qc1 := hq.2.1
    have hcW := hq.2.2.1
    have hcN := hq.2.2.2.1
    have hD4 := hq.2.2.2.2.1
    have hkl := hq.2.2.2.2.2.1
    have hoff2 := hq.2.2.2.2.2.2.1
    have hall := hq.2.2.2.2.2.2.2.1
    have hhas := hq.2.2.2.2.2.2.2.2
    clear hq hJ
    subst qb0
    obtain ⟨cv, hcR⟩ := qc1
    clear D2 F3 N3 R3
    k_steps
    refine hret _ _ dn kc F4.keep lon (N4 _ (.head _)).2.2 (Heap.dictOf_iff.mpr ⟨oD, (N4 _ (.head _)).1, hD4⟩) ?_ hhas
    intro k v e
    obtain ⟨r, D, oR, kd, h1, h2, h3, h4, h5, h6, h7⟩ := hall k v e
    exact ⟨r, D, kd, h1, h2, h3, h4, (N4 (D, oR) (by simp [h5])).2.2, Heap.dictOf_iff.mpr ⟨oR, (N4 (D, oR) (by simp [h5])).1, h6⟩, h7⟩
end

/-! Text -/
section
/-- a piece between its marks -/
noncomputable def markT (x : Option Int) (p : Str) : Str := Txt.mul (Str.ofString "\"") (x.getD 0) ++ p ++ Txt.mul (Str.ofString "\"") (x.getD 0)
section
variable {prog : Program} {w : World} {A : Around} {E : Value → Shared → Prop} {s : Shared} {d : Addr} {kvs : List (Str × Value)} {is : List (Str × Int)} {k : Str} {key : Value} {z : Int} {tz : Tok} {Q : Value → Shared → Prop}
theorem get2_int {knd : KeyKind prog w Str} (lo : (d == sysModules) = false := by assumption) (hd : s.heap.DictOf knd d kvs := by exact Heap.DictOf.keep (by assumption) (Fr.keep (by k_asm))) (hi : IntKvs kvs is := by assumption) (hkey : knd.is k key = true := by exact strKind_is _ _ _ _) (h : ∀ t, Q (.int ((lookI is k).getD z) t) { s with toks := s.toks + 1 }) : wpAny (model prog w) A (call (.builtin "dict.get") [.ref d, key, .int z tz]) Q E s := by
  refine call_get2_base lo hd hkey ?_
  have := hi.look k
  cases q : valueAt kvs k with
  | none =>
    rw [q] at this
    cases q2 : lookI is k with
    | none => rw [q2] at h; exact h tz
    | some y => rw [q2] at this; cases this
  | some v =>
    rw [q] at this
    cases q2 : lookI is k with
    | none => rw [q2] at this; cases this
    | some y =>
      rw [q2] at this h
      obtain ⟨t, rfl⟩ := iv_some (Option.some.inj this)
      exact h t
end
theorem fst_addr4 {h₀ h : Heap} {L a : Addr} {o : Obj} {rest : List (Addr × Obj)} (_ : News h₀ L h ((a, o) :: rest)) : ∃ x, x = a := ⟨a, rfl⟩
theorem off_cons4 {x : Addr} {p : Addr × Obj} {l : List (Addr × Obj)} (h : p.1 ≠ x) (r : ∀ q ∈ l, q.1 ≠ x) : ∀ q ∈ p :: l, q.1 ≠ x := fun q hq => by
  rcases List.mem_cons.mp hq with rfl | hq
  · exact h
  · exact r q hq
theorem fr_pack4 {h₀ h : Heap} {L : Addr} {m : Str → Option Value} (F : Fr h₀ L h m) {v1 v2 v3 v4 : Value} (e1 : m "parts" = some v1) (e2 : m "names" = some v2) (e3 : m "pieces" = some v3) (e4 : m "table" = some v4) :
    ∃ m1, Fr h₀ L h m1 ∧ m1 "parts" = some v1 ∧ m1 "names" = some v2 ∧ m1 "pieces" = some v3 ∧ m1 "table" = some v4 := ⟨m, F, e1, e2, e3, e4⟩
theorem if_two4 (m : Str → Option Value) (x y : Str) : (fun z => if z = x then m x else if z = y then m y else m z) = m := by
  funext z
  by_cases h1 : z = x
  · rw [if_pos h1, h1]
  · by_cases h2 : z = y
    · rw [if_neg h1, if_pos h2, h2]
    · rw [if_neg h1, if_neg h2]
theorem over_two4 (m : Str → Option Value) {x y : Str} {u v u' v' : Option Value} : (fun z => if z = x then u' else (fun z => if z = y then v' else (fun z => if z = x then u else if z = y then v else m z) z) z) = (fun z => if z = x then u' else if z = y then v' else m z) := by
  funext z
  by_cases e1 : z = x
  · simp only [if_pos e1]
  · by_cases e2 : z = y
    · simp only [if_neg e1, if_pos e2]
    · simp only [if_neg e1, if_neg e2]
theorem markT_len {x : Option Int} {p : Str} (h0 : 0 ≤ x.getD 0) (h8 : x.getD 0 ≤ 8) (hp : p.length ≤ 2) : (markT x p).length ≤ 18 := by
  unfold markT
  rw [Str.length_append, Str.length_append]
  have : (Txt.mul (Str.ofString "\"") (x.getD 0)).length ≤ 8 := by
    have e : ∀ z : Fin 9, (Txt.mul (Str.ofString "\"") ((z.val : Nat) : Int)).length ≤ 8 := by decide +kernel
    have := e ⟨(x.getD 0).toNat, by omega⟩
    rw [show (((x.getD 0).toNat : Nat) : Int) = x.getD 0 by omega] at this
    exact this
  omega
theorem range_map4 {α : Type} (f : Nat → α) : (List.range 4).map f = [f 0, f 1, f 2, f 3] := rfl
local macro_rules | `(tactic| walk_at $s:str) => kP s [("getMethod ref", kA ``method_getA), ("call builtin:dict.get", kI 1 (kS ``get2_int)), ("eval Name", kA ``nameX_LA), ("call builtin:list.append", kI 3 (kA ``append_ownN))]
local macro_rules | `(tactic| walk_at $s:str) => kP s [("call builtin:str.join", kJ)]
theorem c_text : ∀ (w : World) (loose : List Str) (mean : ExcName → Option Value) (mg mb : Str → Option Value) (dp un : Nat) (gd : Option (List Code)) (cn : Str) (cs : Scope) (a : Addr) (ccd : Value) (cl : List (Str × Addr)) (outer : List Env) (A₀ : Around) (base h₀ : Heap) (L : Addr) (m : Str → Option Value) (s : Shared) (Q E : Value → Shared → Prop) (ln lp d : Addr) (n0 n1 n2 n3 p0 p1 p2 p3 : Str) (u0 u1 u2 u3 v0 v1 v2 v3 : Tok) (kvs : List (Str × Value)) (is : List (Str × Int)),
    Site w (hd.heap_39 w.params) loose mean mg mb dp un cs outer A₀ base h₀ L m 20 s → s.heap.IsList ln [.str n0 u0, .str n1 u1, .str n2 u2, .str n3 u3].toArray → s.heap.IsList lp [.str p0 v0, .str p1 v1, .str p2 v2, .str p3 v3].toArray →
    (d == sysModules) = false → s.heap.DictOf (strKind PySem.Challenge.rw_zo0006_01.row.prog w) d kvs → IntKvs kvs is → (∀ k, 0 ≤ (lookI is k).getD 0 ∧ (lookI is k).getD 0 ≤ 8) → p0.length ≤ 2 → p1.length ≤ 2 → p2.length ≤ 2 → p3.length ≤ 2 →
    (∀ (h' : Heap) (tk' : Nat) (t : Tok), (∀ b o, s.heap.get? b = some o → h'.get? b = some o) → 
      Q (.str (Txt.join (Str.ofString "") [markT (lookI is n0) p0, markT (lookI is n1) p1, markT (lookI is n2) p2, markT (lookI is n3) p3]) t) { s with heap := h', toks := tk' }) →
      wpAny (model PySem.Challenge.rw_zo0006_01.row.prog w) (ktrTop dp un gd cn cs L a ccd cl outer) (call (.ref 76) [.ref ln, .ref lp, .ref d]) Q E s := by
  k_fill
  w_top off
  intro w loose mean mg mb dp un gd cn cs a ccd cl outer A₀ base h₀ L m s Q E ln lp d n0 n1 n2 n3 p0 p1 p2 p3 u0 u1 u2 u3 v0 v1 v2 v3 kvs is S hln hlp lo hd hi hb hp0 hp1 hp2 hp3 hret
  obtain ⟨hB, hF, hK, hT, hk, hdp, hun⟩ := S
  obtain ⟨nm, rfl, rfl, rfl, rfl⟩ : ∃ nm : Nat → Str, nm 0 = n0 ∧ nm 1 = n1 ∧ nm 2 = n2 ∧ nm 3 = n3 := ⟨fun i => [n0, n1, n2, n3].getD i n0, rfl, rfl, rfl, rfl⟩
  obtain ⟨pc, rfl, rfl, rfl, rfl⟩ : ∃ pc : Nat → Str, pc 0 = p0 ∧ pc 1 = p1 ∧ pc 2 = p2 ∧ pc 3 = p3 := ⟨fun i => [p0, p1, p2, p3].getD i p0, rfl, rfl, rfl, rfl⟩
  obtain ⟨nu, rfl, rfl, rfl, rfl⟩ : ∃ nu : Nat → Tok, nu 0 = u0 ∧ nu 1 = u1 ∧ nu 2 = u2 ∧ nu 3 = u3 := ⟨fun i => [u0, u1, u2, u3].getD i 0, rfl, rfl, rfl, rfl⟩
  obtain ⟨pv, rfl, rfl, rfl, rfl⟩ : ∃ pv : Nat → Tok, pv 0 = v0 ∧ pv 1 = v1 ∧ pv 2 = v2 ∧ pv 3 = v3 := ⟨fun i => [v0, v1, v2, v3].getD i 0, rfl, rfl, rfl, rfl⟩
  have hpc : ∀ r, r < 4 → (pc r).length ≤ 2 := fun r hr => by
    rcases lt4 hr with rfl | rfl | rfl | rfl <;> assumption
  clear hp0 hp1 hp2 hp3
  refine wpAny_call (enter0 (binds := [("names", .ref ln), ("pieces", .ref lp), ("table", .ref d)]) hB hF hK hT rfl rfl hk (by k_is) (by k_is) (by ktr_room) (BindsTo.of_eq rfl) (locs rfl) ?_ rfl rfl rfl (by decide))
  intro L' h₁ F1 N1 B1 X1 T1 st1
  dsimp only
  k_fold
  k_steps
  unfold Hold
  rename Fr s.heap _ _ _ => F2
  rename News s.heap _ _ _ => N2
  obtain ⟨pl, rfl⟩ := fst_addr4 N2
  obtain ⟨m0, F0, e1, e2, e3, e4⟩ := fr_pack4 F2 (v1 := .ref pl) (v2 := .ref ln) (v3 := .ref lp) (v4 := .ref d) rfl rfl rfl rfl
  clear F2
  refine For_invTF F0 ?_ (by intro _; rfl)
  k_steps
  unfold Hold
  rename IsRange _ _ _ _ _ _ _ _ => R3
  rename News s.heap _ _ _ => N3
  rename Fr s.heap _ _ _ => F3
  refine iter_rangeT (n := 4) (by rfl) R3 (by decide) (by rfl) F3 N3 (fun i m' nw => Hold (∃ (ys : List Value) (n : Nat) (um ur : Option Value), nw = [(pl, lstN ys n)] ∧ StrsAre ys ((List.range i).map fun r => markT (lookI is (nm r)) (pc r)) ∧ m' = fun z => if z = ("marks" : Str) then um else if z = ("row" : Str) then ur else m0 z)) ?_ ?_ ?_
  · exact ⟨[], 0, _, _, rfl, .nil, (if_two4 m0 _ _).symm⟩
  · intro i tv m₁ nw s₁ I oI hi4 hJ hoffI F4 N4
    refine ex4 hJ fun ys n um ur hq => ?_
    have qb0 := hq.1
    have hys := hq.2.1
    have qb2 := hq.2.2
    clear hq hJ
    subst qb0
    subst qb2
    clear F3 N3 R3
    have hIp : I ≠ pl := Ne.symm (hoffI _ (.head _))
    have hbi := hb (nm i)
    have hpi := hpc i hi4
    have q1 := four (f := fun r => Value.str (nm r) (nu r)) hi4
    have q2 := four (f := fun r => Value.str (pc r) (pv r)) hi4
    have hyl : ys.length ≤ sizeLine := by rw [hys.length, List.length_map, List.length_range, sizeLine_eq]; omega
    clear hb hpc
    k_steps
    rename Fr s.heap _ _ _ => F5
    rename News s.heap _ _ _ => N5
    refine TurnE.intro F5 N5 (fun p hp => hp) (off_cons4 (Ne.symm hIp) fun _ h => nomatch h) ⟨_, _, _, _, rfl, ?_, over_two4 m0⟩
    rw [List.range_succ, List.map_append, List.map_singleton]
    exact hys.append' (.cons _ _ .nil)
  · intro h' tk' m' nw F4 N4 hJ
    refine ex4 hJ fun ys n um ur hq => ?_
    have qb0 := hq.1
    have hys := hq.2.1
    have qb2 := hq.2.2
    clear hq hJ
    subst qb0
    subst qb2
    clear F3 N3 R3
    have hsw : (((List.range 4).map fun r => markT (lookI is (nm r)) (pc r)).map (·.length)).sum + ((List.range 4).map fun r => markT (lookI is (nm r)) (pc r)).length ≤ 1048576 := by
      have := sum_len_le (c := 18) (l := (List.range 4).map fun r => markT (lookI is (nm r)) (pc r)) fun x hx => by
        obtain ⟨r, hr, rfl⟩ := List.mem_map.mp hx
        exact markT_len (hb _).1 (hb _).2 (hpc r (List.mem_range.mp hr))
      have e : ((List.range 4).map fun r => markT (lookI is (nm r)) (pc r)).length = 4 := by rw [List.length_map, List.length_range]
      rw [e] at this ⊢
      exact Nat.le_trans (Nat.add_le_add_right this 4) (by decide)
    clear hb hpc
    k_steps
    rename Fr s.heap _ _ _ => F9
    exact hret _ _ _ F9.keep
end

/-! Pretty -/
section
noncomputable def nmOf (j : Nat) : Str := ([Str.ofString "OPTIMIZED", Str.ofString "NEWLOCALS", Str.ofString "VARARGS", Str.ofString "VARKEYWORDS", Str.ofString "NESTED", Str.ofString "GENERATOR", Str.ofString "NOFREE", Str.ofString "COROUTINE", Str.ofString "ITERABLE_COROUTINE", Str.ofString "ASYNC_GENERATOR"] : List Str).getD j (Str.ofString "")
noncomputable def bitsW (x : Int) (i : Nat) : List Str := ((List.range i).filter fun j => decide (x / 2 ^ j % 2 = 1)).map nmOf
/-- the flags' words -/
noncomputable def wordsW (x : Int) : List Str := if x = 0 then [Str.ofString "0x0"] else bitsW x 10
noncomputable def curF (x : Int) (i : Nat) : Int := x - x % 2 ^ i
section
variable {prog : Program} {w : World} {A : Around} {E : Value → Shared → Prop} {s : Shared} {Q : Value → Shared → Prop} {a b v : Int} {t u : Tok}
theorem and_is (e : Builtin.bitAnd a b = v) (h : ∀ t', Q (.int v t') { s with toks := s.toks + 1 }) : wpAny (model prog w) A (binaryOp .BitAnd (.int a t) (.int b u)) Q E s := and_int (by rw [e]; exact h _)
theorem xor_is (e : Builtin.bitXor a b = v) (h : ∀ t', Q (.int v t') { s with toks := s.toks + 1 }) : wpAny (model prog w) A (inplaceOp .BitXor (.int a t) (.int b u)) Q E s := ixor_int (by rw [e]; exact h _)
end
theorem bitsW_length (x : Int) (i : Nat) : (bitsW x i).length ≤ i := by
  unfold bitsW
  rw [List.length_map]
  exact Nat.le_trans (List.length_filter_le _ _) (by simp)
theorem curF_eq (x : Int) (i : Nat) : curF x i = 2 ^ i * (x / 2 ^ i) := by
  unfold curF
  have := Int.emod_def x (2 ^ i)
  omega
theorem pow_pos' (i : Nat) : (0 : Int) < 2 ^ i := PySem.W.kbt_pos i
theorem zero_add_toNat (i : Nat) : ((0 : Int) + (i : Int)).toNat = i := by rw [Int.zero_add]; rfl
theorem curF_and (x : Int) (i : Nat) : Builtin.bitAnd (curF x i) (1 * 2 ^ ((0 : Int) + (i : Int)).toNat) = (x / 2 ^ i % 2) * 2 ^ i := by
  rw [zero_add_toNat, Int.one_mul, PySem.W.kbt_bit, curF_eq, Int.mul_ediv_cancel_left _ (Int.ne_of_gt (pow_pos' i))]
theorem curF_succ (x : Int) (i : Nat) : curF x (i + 1) = curF x i - x / 2 ^ i % 2 * 2 ^ i := by
  rw [curF_eq, curF_eq, Int.pow_succ, ← Int.ediv_ediv_of_nonneg (Int.le_of_lt (pow_pos' i))]
  have h := Int.emod_def (x / 2 ^ i) 2
  generalize x / 2 ^ i = q at *
  rw [h, Int.sub_mul, Int.mul_comm q, Int.mul_assoc (2 ^ i)]
  rw [Int.mul_comm (2 * (q / 2)) (2 ^ i)]
  omega
theorem curF_xor {x : Int} {i : Nat} (hb : x / 2 ^ i % 2 = 1) : Builtin.bitXor (curF x i) (1 * 2 ^ ((0 : Int) + (i : Int)).toNat) = curF x (i + 1) := by
  have h1 := curF_and x i
  rw [hb] at h1
  unfold Builtin.bitXor
  rw [bitOr_and, h1, curF_succ, hb, zero_add_toNat]
  omega
theorem curF_same {x : Int} {i : Nat} (hb : x / 2 ^ i % 2 = 0) : curF x (i + 1) = curF x i := by
  rw [curF_succ, hb]; omega
theorem div_high {x : Int} {j k : Nat} (h0 : 0 ≤ x) (h1 : x < 2 ^ k) (hj : k ≤ j) : x / 2 ^ j = 0 := by
  refine Int.ediv_eq_zero_of_lt h0 (Int.lt_of_lt_of_le h1 ?_)
  exact_mod_cast Nat.pow_le_pow_right (by decide : 0 < 2) hj
theorem curF_high {x : Int} {i : Nat} (h0 : 0 ≤ x) (h1 : x < 1024) (hi : 10 ≤ i) : curF x i = 0 := by
  rw [curF_eq, div_high (k := 10) h0 h1 hi, Int.mul_zero]
theorem bitsW_succ0 {x : Int} {i : Nat} (hb : x / 2 ^ i % 2 = 0) : bitsW x (i + 1) = bitsW x i := by
  unfold bitsW; rw [List.range_succ, List.filter_append, List.map_append]; simp [hb]
theorem bitsW_succ1 {x : Int} {i : Nat} (hb : x / 2 ^ i % 2 = 1) : bitsW x (i + 1) = bitsW x i ++ [nmOf i] := by
  unfold bitsW; rw [List.range_succ, List.filter_append, List.map_append]; simp [hb]
theorem bitsW_stop {x : Int} {i : Nat} (h0 : 0 ≤ x) (h1 : x < 1024) (hc : curF x i = 0) (hi : i ≤ 10) : bitsW x i = bitsW x 10 := by
  have hq : x / 2 ^ i = 0 := by
    rw [curF_eq] at hc
    rcases Int.mul_eq_zero.mp hc with h | h
    · exact absurd h (Int.ne_of_gt (pow_pos' i))
    · exact h
  have hlt : x < 2 ^ i := by
    have := Int.emod_lt_of_pos x (pow_pos' i)
    have := Int.emod_def x (2 ^ i)
    rw [hq] at this
    omega
  have key : ∀ k, bitsW x (i + k) = bitsW x i := by
    intro k
    induction k with
    | zero => rfl
    | succ k ih => rw [← Nat.add_assoc, bitsW_succ0 (by rw [div_high h0 hlt (Nat.le_add_right i k)]; rfl), ih]
  have := key (10 - i)
  rw [show i + (10 - i) = 10 by omega] at this
  exact this.symm
theorem bitsW_zero (i : Nat) : bitsW 0 i = [] := by
  induction i with
  | zero => rfl
  | succ i ih => rw [bitsW_succ0 (by simp), ih]
theorem nmOf_length (j : Nat) : (nmOf j).length ≤ 18 := by
  rcases Nat.lt_or_ge j 10 with h | h
  · exact (by decide +kernel : ∀ j, j < 10 → (nmOf j).length ≤ 18) j h
  unfold nmOf
  rw [List.getD_eq_getElem?_getD, List.getElem?_eq_none (by simpa using h)]
  decide +kernel
theorem bitsW_weight (x : Int) : ((bitsW x 10).map (·.length)).sum + (bitsW x 10).length ≤ 1048576 := by
  have h1 := bitsW_length x 10
  have h2 := sum_len_le (c := 18) (l := bitsW x 10) fun y hy => by
    obtain ⟨j, _, rfl⟩ := List.mem_map.mp hy
    exact nmOf_length j
  omega
open PyProof.Rows.KTD in
theorem each_at {P : Value → Prop} {els : Prop} {h : Heap} {k : Int} {x : Str} : ∀ {D : List (Int × KTD.Dat)}, datumAt k D = some (.flat (.str x)) → (∀ t, P (.str x t)) → Each h k P els D
  | [], e, _ => by cases e
  | (y, d) :: D, e, hp => by
    unfold Each
    unfold datumAt at e
    by_cases q : k = y
    · simp only [q, decide_true, if_true, Option.some.injEq] at e ⊢
      subst e; exact hp
    · simp only [q, decide_false] at e ⊢
      exact each_at e hp
open PyProof.Rows.KTD in
theorem nm_at {i : Nat} (hi : i < 10) : datumAt (1 * 2 ^ ((0 : Int) + (i : Int)).toNat) (asDat [(1, PyData.str (Str.ofString "OPTIMIZED")), (2, PyData.str (Str.ofString "NEWLOCALS")), (4, PyData.str (Str.ofString "VARARGS")), (8, PyData.str (Str.ofString "VARKEYWORDS")), (16, PyData.str (Str.ofString "NESTED")), (32, PyData.str (Str.ofString "GENERATOR")), (64, PyData.str (Str.ofString "NOFREE")), (128, PyData.str (Str.ofString "COROUTINE")), (256, PyData.str (Str.ofString "ITERABLE_COROUTINE")), (512, PyData.str (Str.ofString "ASYNC_GENERATOR"))]) = some (.flat (.str (nmOf i))) := by
  have : i = 0 ∨ i = 1 ∨ i = 2 ∨ i = 3 ∨ i = 4 ∨ i = 5 ∨ i = 6 ∨ i = 7 ∨ i = 8 ∨ i = 9 := lt10 (by first | assumption | omega)
  rcases this with rfl | rfl | rfl | rfl | rfl | rfl | rfl | rfl | rfl | rfl <;> rfl
theorem hex_len {i : Nat} (hi : i < 10) : (baseText "0x" 16 (1 * 2 ^ ((0 : Int) + (i : Int)).toNat)).length ≤ sizeLine := by
  have h : ∀ i : Fin 10, (baseText "0x" 16 (1 * 2 ^ ((0 : Int) + (i.val : Int)).toNat)).length ≤ 100 := by decide +kernel
  exact Nat.le_trans (h ⟨i, hi⟩) (by rw [sizeLine_eq]; decide)
local macro_rules
  | `(tactic| walk_at "call builtin:hex") => `(tactic| k_dflt (refine P.hex_of_int ?_ (by assumption)))
  | `(tactic| walk_at $s:str) => kP s [("Each", kI 1 (kB ``each_at)), ("binaryOp BitAnd int int", kI 1 (kB ``and_is)), ("inplaceOp BitXor int int", kI 1 (kB ``xor_is)), ("call builtin:list.append", kI 3 (kA ``append_own)), ("call builtin:str.join", kJ), ("exec For Name Call cons cons", kH), ("exec For Name Call", kH)]
theorem c_pretty : ∀ (w : World) (loose : List Str) (mean : ExcName → Option Value) (mg mb : Str → Option Value) (dp un : Nat) (gd : Option (List Code)) (cn : Str) (cs : Scope) (a : Addr) (ccd : Value) (cl : List (Str × Addr)) (outer : List Env) (A₀ : Around) (base h₀ : Heap) (L : Addr) (m : Str → Option Value) (s : Shared) (Q E : Value → Shared → Prop) (x : Int) (tx : Tok),
    Site w (hd.heap_39 w.params) loose mean mg mb dp un cs outer A₀ base h₀ L m 20 s → 0 ≤ x → x < 1024 → 
    (∀ (h' : Heap) (tk' : Nat) (t : Tok), (∀ b o, s.heap.get? b = some o → h'.get? b = some o) → 
      Q (.str (Txt.join (Str.ofString ", ") (wordsW x)) t) { s with heap := h', toks := tk' }) →
      wpAny (model PySem.Challenge.rw_zo0006_01.row.prog w) (ktrTop dp un gd cn cs L a ccd cl outer) (call (.ref 36) [.int x tx]) Q E s := by
  k_fill
  w_top off
  intro w loose mean mg mb dp un gd cn cs a ccd cl outer A₀ base h₀ L m s Q E x tx S hx0 hx1 hret
  obtain ⟨hB, hF, hK, hT, hk, hdp, hun⟩ := S
  refine wpAny_call (enter0 (binds := [("flags", .int x tx)]) hB hF hK hT rfl rfl hk (by k_is) (by k_is) (by ktr_room) (BindsTo.of_eq rfl) (locs rfl) ?_ rfl rfl rfl (by decide))
  intro L' h₁ F1 N1 B1 X1 T1 st1
  dsimp only
  k_fold
  k_steps
  rename Fr s.heap _ _ _ => F2
  rename News s.heap _ _ _ => N2
  rename_i nl hh1 ll1 hh2
  unfold Hold
  refine For_C F2 ?_ (by intro _; rfl)
  k_steps
  rename IsRange _ _ _ _ _ _ _ _ => R3
  rename News s.heap _ _ _ => N3
  rename Fr s.heap _ _ _ => F3
  unfold Hold
  refine iter_rangeG (n := 32) (by rfl) R3 (by decide) (by rfl) F3 N3 (fun i m nw gs => Hold (gs = s.gens ∧ (x = 0 ∨ curF x i ≠ 0) ∧ ∃ (u uf : Option Value) (vs : List Value) (tc : Tok), nw = [(nl, LCg.lst vs)] ∧ StrsAre vs (bitsW x i) ∧
    m = fun (z : Str) => if z = ("flags" : Str) then some (.int (curF x i) tc) else if z = ("i" : Str) then u else if z = ("flag" : Str) then uf else if z = ("names" : Str) then some (.ref nl) else none)) ?_ ?_ ?_
  · refine ⟨rfl, ?_, none, none, [], tx, rfl, .nil, funext fun z => ?_⟩
    · rw [show curF x 0 = x by simp [curF]]
      omega
    · by_cases h1 : z = ("flags" : Str)
      · subst h1; rw [show curF x 0 = x by simp [curF]]; rfl
      · by_cases h2 : z = ("i" : Str)
        · subst h2; rfl
        · by_cases h3 : z = ("flag" : Str)
          · subst h3; rfl
          · by_cases h4 : z = ("names" : Str)
            · subst h4; rfl
            · simp only [if_neg h1, if_neg h2, if_neg h3, if_neg h4]
              show (match z == Str.ofString "flags" with | true => _ | false => _) = _
              rw [beq_eq_false_iff_ne.mpr h1]
              rfl
  · intro i tv m₁ nw h gs tk I oI hi hJ hoff F4 N4
    have qa0 := hJ.1
    have hx := hJ.2.1
    refine ex4 hJ.2.2 fun u uf vs tc hq => ?_
    have qb0 := hq.1
    have hvs := hq.2.1
    have qb2 := hq.2.2
    clear hq hJ
    subst qa0
    subst qb0
    subst qb2
    clear F3 N3 R3
    have hand := curF_and x i
    have hnI : (@Ne Nat I nl) := Ne.symm (hoff (nl, LCg.lst vs) (by simp))
    by_cases hb : x / 2 ^ i % 2 = 0
    · rw [hb, Int.zero_mul] at hand
      k_steps
      rename Fr s.heap _ _ _ => F5
      rename News s.heap _ _ _ => N5
      refine TurnG.intro F5 N5 (news' := [(nl, LCg.lst vs)]) (fun p hp => hp) hoff ⟨rfl, by rw [curF_same hb]; exact hx, ?u, ?uf, vs, tc, rfl, by rw [bitsW_succ0 hb]; exact hvs, funext fun z => ?_⟩
      rotate_left 2
      rw [curF_same hb]
      by_cases h1 : z = ("flags" : Str)
      · subst h1; rfl
      · by_cases h2 : z = ("i" : Str)
        · subst h2; rfl
        · by_cases h3 : z = ("flag" : Str)
          · subst h3; rfl
          · simp only [if_neg h1, if_neg h2, if_neg h3]
    · have hb : x / 2 ^ i % 2 = 1 := (Int.emod_two_eq _).resolve_left (by assumption)
      have hx' : curF x i ≠ 0 := by
        rcases hx with h | h
        · subst h; simp at hb
        · exact h
      have hi10 : i < 10 := by
        rcases Nat.lt_or_ge i 10 with h | h
        · exact h
        · exact absurd (curF_high hx0 hx1 h) hx'
      rw [hb] at hand
      have hvn : (1 * 2 ^ i : Int) ≠ 0 := by have := pow_pos' i; omega
      generalize (1 * 2 ^ i : Int) = v at hand hvn
      have hhex := hex_len hi10
      have hxor := curF_xor hb
      have hvz : vs.length ≤ sizeLine := by
        rw [hvs.length, sizeLine_eq]
        have := bitsW_length x i
        omega
      have hstop : curF x (i + 1) = 0 → bitsW x (i + 1) = bitsW x 10 := fun h => bitsW_stop hx0 hx1 h hi10
      have hxn : x ≠ 0 := fun e => by subst e; simp at hb
      have hbw := bitsW_succ1 hb
      have hww := bitsW_weight x
      have hat := nm_at hi10
      k_steps
      · rename Fr s.heap _ _ _ => F5
        rename News s.heap _ _ _ => N5
        rename curF x _ ≠ 0 => hne
        refine TurnG.intro F5 N5 (news' := [(nl, LCg.lst (vs ++ [_]))]) (fun p hp => hp) (fun p hp => by rw [List.mem_singleton.mp hp]; exact Ne.symm hnI) ⟨rfl, .inr hne, ?u2, ?uf2, _, ?tc2, rfl, by rw [hbw]; exact hvs.append' (.cons _ _ .nil), funext fun z => ?_⟩
        rotate_left 3
        by_cases h1 : z = ("flags" : Str)
        · subst h1; rfl
        · by_cases h2 : z = ("i" : Str)
          · subst h2; rfl
          · by_cases h3 : z = ("flag" : Str)
            · subst h3; rfl
            · simp only [if_neg h1, if_neg h2, if_neg h3]
      · rename curF x _ = 0 => hze
        rename News s.heap _ _ [_, (_, LCg.lst (_ ++ [Value.str _ _]))] => N5
        have hss := fun t => hvs.append' (StrsAre.cons (nmOf i) t .nil)
        rw [← hbw, hstop hze] at hss
        unfold TurnG
        dsimp only
        k_steps
        rename Fr s.heap _ _ _ => F6
        have := hret
        unfold wordsW at this
        rw [if_neg hxn] at this
        exact this _ _ _ F6.keep
      · rename v = 0 => hv0
        exact absurd hv0 hvn
  · intro h' gs tk m' nw F4 N4 hJ
    have qa0 := hJ.1
    have hx := hJ.2.1
    refine ex4 hJ.2.2 fun u uf vs tc hq => ?_
    have qb0 := hq.1
    have hvs := hq.2.1
    have qb2 := hq.2.2
    clear hq hJ
    subst qa0
    subst qb0
    subst qb2
    clear F3 N3 R3
    rw [curF_high hx0 hx1 (by decide)] at *
    have hx : x = 0 := by
      rcases hx with h | h
      · exact h
      · exact absurd rfl h
    subst hx
    rw [bitsW_zero] at hvs
    cases hvs
    k_steps
    rename Fr s.heap _ _ _ => F6
    exact hret _ _ _ F6.keep
end

/-! Strip -/
section
local macro_rules | `(tactic| walk_at $s:str) => kP s [("exec For Tuple Call", kH), ("call ref", kR 21)]
/-- the fold's state: where the kept text starts, where a quotation opened, what is kept -/
noncomputable abbrev StF := Int × Option Int × List Str
noncomputable def opV : Option Int → Tok → Value
  | none, _ => .none
  | some i, u => .int i u
noncomputable abbrev mS (t : Str) (ta : Tok) (rl : Addr) (st : StF) (ts to : Tok) (up uc : Option Value) : Str → Option Value := fun y => if y = ("ch" : Str) then uc else if y = ("pos" : Str) then up else if y = ("start" : Str) then some (.int st.1 ts) else if y = ("open_pos" : Str) then some (opV st.2.1 to) else if y = ("result" : Str) then some (.ref rl) else if y = ("addr" : Str) then some (.str t ta) else none
local macro_rules | `(tactic| walk_at $s:str) => kP s [("call builtin:list.append", kI 3 (kA ``append_head))]
theorem memSwap {α : Type} {gl : List α} {a r q : α} (h : q ∈ gl ++ [a, r]) : q ∈ r :: a :: gl := by
  simp only [List.mem_cons, List.mem_append, List.not_mem_nil, or_false] at h ⊢
  rcases h with h | h | h <;> simp [h]
noncomputable def stepS (t : Str) (st : StF) (p : Int × Str) : StF := if p.2 = Str.ofString "\"" then (match st.2.1 with
  | none => (st.1, some p.1, st.2.2)
  | some o => (p.1 + 1, none, if st.1 ≠ o then st.2.2 ++ [Txt.slice t (some st.1) (some o)] else st.2.2)) else st
noncomputable def foldS (t : Str) (l : List (Int × Str)) : StF := l.foldl (stepS t) (0, none, [])
noncomputable def tailS (t : Str) (st : StF) : List Str := if st.1 < (t.length : Int) then st.2.2 ++ [Txt.slice t (some st.1) none] else st.2.2
/-- what the text loses its quotations to -/
noncomputable def stripF (t : Str) : Str := if (Builtin.Str.occurrences t (Str.ofString "\"") 0 t.length 1).isEmpty = true then t else Txt.join (Str.ofString "") (tailS t (foldS t (tokF t.cps.toList 0 false)))
theorem foldS_take {t : Str} {l : List (Int × Str)} {j : Nat} {p : Int × Str} (e : l[j]? = some p) : foldS t (l.take (j + 1)) = stepS t (foldS t (l.take j)) p := by
  unfold foldS
  rw [List.take_add_one, e, List.foldl_append]; rfl
theorem tokF_length : ∀ (cs : List Nat) (i : Nat) (e : Bool), (tokF cs i e).length ≤ cs.length
  | [], _, _ => Nat.le_refl _
  | c :: r, i, true => by
    have := tokF_length r (i + 1) false
    rw [tokF_esc, List.length_cons, List.length_cons]; omega
  | c :: r, i, false => by
    by_cases h : c = 92
    · subst h
      have := tokF_length r (i + 1) true
      rw [tokF_bs, List.length_cons]; omega
    · have := tokF_length r (i + 1) false
      rw [tokF_ch h, List.length_cons, List.length_cons]; omega
theorem stepS_res (t : Str) (st : StF) (p : Int × Str) : (stepS t st p).2.2.length ≤ st.2.2.length + 1 ∧ ∀ x ∈ (stepS t st p).2.2, x ∈ st.2.2 ∨ x.length ≤ t.length := by
  obtain ⟨a, op, res⟩ := st
  unfold stepS
  by_cases h1 : p.2 = Str.ofString "\""
  · rw [if_pos h1]
    cases op with
    | none => exact ⟨Nat.le_succ _, fun x hx => .inl hx⟩
    | some o =>
      by_cases h2 : a ≠ o
      · simp only [if_pos h2]
        refine ⟨by simp, fun x hx => ?_⟩
        rcases List.mem_append.mp hx with hx | hx
        · exact .inl hx
        · rw [List.mem_singleton.mp hx]; exact .inr (Txt.slice_le _ _ _)
      · simp only [if_neg h2]
        exact ⟨Nat.le_succ _, fun x hx => .inl hx⟩
  · rw [if_neg h1]
    exact ⟨Nat.le_succ _, fun x hx => .inl hx⟩
theorem foldS_res (t : Str) : ∀ (l : List (Int × Str)) (st : StF), (∀ x ∈ st.2.2, x.length ≤ t.length) → (l.foldl (stepS t) st).2.2.length ≤ st.2.2.length + l.length ∧ ∀ x ∈ (l.foldl (stepS t) st).2.2, x.length ≤ t.length
  | [], st, h => ⟨Nat.le_refl _, h⟩
  | p :: l, st, h => by
    obtain ⟨h1, h2⟩ := stepS_res t st p
    obtain ⟨h3, h4⟩ := foldS_res t l (stepS t st p) fun x hx => by
      rcases h2 x hx with q | q
      · exact h x q
      · exact q
    rw [List.foldl_cons]
    exact ⟨by rw [List.length_cons]; omega, h4⟩
theorem stepS_none {t : Str} {a p : Int} {res : List Str} : stepS t (a, none, res) (p, Str.ofString "\"") = (a, some p, res) := by
  unfold stepS; rw [if_pos rfl]
theorem stepS_ne {t : Str} {a p o : Int} {res : List Str} (h : a ≠ o) : stepS t (a, some o, res) (p, Str.ofString "\"") = (p + 1, none, res ++ [Txt.slice t (some a) (some o)]) := by
  unfold stepS; rw [if_pos rfl]; simp only [if_pos h]
theorem stepS_eq {t : Str} {a p : Int} {res : List Str} : stepS t (a, some a, res) (p, Str.ofString "\"") = (p + 1, none, res) := by
  unfold stepS; rw [if_pos rfl]; simp
theorem stepS_other {t : Str} {st : StF} {p : Int × Str} (h : ¬ p.2 = Str.ofString "\"") : stepS t st p = st := by
  unfold stepS; rw [if_neg h]
local macro_rules | `(tactic| walk_at $s:str) => kP s [("call builtin:str.join", kJ)]
theorem news_lst {h₀ h : Heap} {L d : Addr} {news : List (Addr × Obj)} {vs : List Value} (N : News h₀ L h news) (hm : (d, LCg.lst vs) ∈ news) : h.IsList d vs.toArray := ⟨_, (N _ hm).1, rfl, _, rfl⟩
theorem c_strip : ∀ (w : World) (loose : List Str) (mean : ExcName → Option Value) (mg mb : Str → Option Value) (dp un : Nat) (gd : Option (List Code)) (cn : Str) (cs : Scope) (a : Addr) (ccd : Value) (cl : List (Str × Addr)) (outer : List Env) (A₀ : Around) (base h₀ : Heap) (L : Addr) (m : Str → Option Value) (s : Shared) (Q E : Value → Shared → Prop) (t : Str) (ta : Tok),
    Site w (hd.heap_39 w.params) loose mean mg mb dp un cs outer A₀ base h₀ L m 30 s → endE t.cps.toList false = false → t.length ≤ 200 →
    (∀ (h' : Heap) (tk' : Nat) (gs' : Array GenState) (t' : Tok), (∀ b o, s.heap.get? b = some o → h'.get? b = some o) → (gs' = s.gens ∨ gs' = s.gens.push .finished) →
      Q (.str (stripF t) t') { s with heap := h', gens := gs', toks := tk' }) →
      wpAny (model PySem.Challenge.rw_zo0006_01.row.prog w) (ktrTop dp un gd cn cs L a ccd cl outer) (call (.ref 28) [.str t ta]) Q E s := by
  k_fill
  w_top off
  intro w loose mean mg mb dp un gd cn cs a ccd cl outer A₀ base h₀ L m s Q E t ta S hend hlen hret
  obtain ⟨hB, hF, hK, hT, hk, hdp, hun⟩ := S
  refine wpAny_call (enter0 (binds := [("addr", .str t ta)]) hB hF hK hT rfl rfl hk (by k_is) (by k_is) (by ktr_room) (BindsTo.of_eq rfl) (locs rfl) ?_ rfl rfl rfl (by decide))
  intro L' h₁ F1 N1 B1 X1 T1 st1
  dsimp only
  k_fold
  k_steps
  · rename List.isEmpty _ = true => hem
    have hr := hret
    unfold stripF at hr
    rw [if_pos hem] at hr
    exact hr _ _ _ _ F1.keep (.inl rfl)
  rename List.isEmpty _ = false => hem
  rename Fr s.heap _ _ _ => F2
  rename News s.heap _ _ _ => N2
  rename_i rl hh1 ll1 hh2
  unfold Hold
  refine For_C F2 ?_ (by intro _; rfl)
  k_steps
  rename Fr s.heap _ _ _ => F3
  rename News s.heap _ _ _ => N3
  unfold Hold
  refine c_gen _ _ _ _ _ _ _ _ _ _ _ _ _ _ _ _ _ _ _ _ _ _ t ta _ ⟨B1, F3, X1, T1, rfl, by show dp + 1 + 10 < _; exact room1 (by assumption) (by decide), by show un + 3 + 10 * 10 < _; exact room3 (by assumption) (by decide)⟩ N3 hend ?_
  intro h4 tk4 ag Lg g₁ oa γ gl F4 N4 hL1 hL2 hoa hag hag2 hgl hoff hgo
  try unfold Hold
  refine iter_gen (all := tokF t.cps.toList 0 false) (gs0 := s.gens) rfl (by ktr_room) T1.nolimit hL1 hL2 rfl hgo F4 N4 hgl hoa hag hoff
    (fun j m nw => Hold (∃ (st : StF) (ts to : Tok) (up uc : Option Value) (ys : List Value), nw = [(rl, LCg.lst ys)] ∧ st = foldS t ((tokF t.cps.toList 0 false).take j) ∧ StrsAre ys st.2.2 ∧ m = mS t ta rl st ts to up uc)) ?start0 ?_ ?_
  rotate_left 1
  · intro j p x T oT t1 t2 gl m₁ nw s₁ hj hJ hT hoT hoff5 hgl5 F5 N5
    obtain ⟨⟨start, op, res⟩, ts, to, up, uc, ys, rfl, hst, hys, rfl⟩ := hJ
    clear F4 N4
    have hTT : s₁.heap.IsTuple T #[.int p t1, .str x t2] := ⟨oT, (N5 _ (List.mem_append_left _ hT)).1, hoT⟩
    refine wpAny_assign_Tuple rfl hTT rfl rfl fun h6 hx6 => ?_
    have up6 : ∀ b o, s₁.heap.get? b = some o → h6.get? b = some o := fun b o x => hx6 b o (Nat.ne_of_lt (Heap.lt_size x)) x
    have F6 := F5.keeps up6
    have N6 := N5.grown up6
    show wpAny _ _ (do holding [Value.str x t2] (assign (.Name (Str.ofString "pos") _) _ (.int p t1)); holding [] (assign (.Name (Str.ofString "ch") _) _ (.str x t2)); pure ()) _ _ _
    refine wpAny_bind (wpAny_holding (wpAny_assign_Name (storeX_L F6 N6 (fun h7 F7 N7 => ?_) rfl rfl)))
    refine wpAny_bind (wpAny_holding (wpAny_assign_Name (storeX_L F7 N7 (fun h8 F8 N8 => wpAny_pure ?_) rfl rfl)))
    clear F5 N5 F6 N6 F7 N7
    have hrl : @LT.lt Nat _ rl Lg := hoff5 _ (.head _)
    have hoffR : ∀ q ∈ (ag, oa) :: gl, q.1 ≠ rl := fun q hq => by
      rcases List.mem_cons.mp hq with rfl | hq
      · exact Nat.ne_of_gt (Nat.lt_trans hrl hag2)
      · exact Nat.ne_of_gt (Nat.lt_of_lt_of_le hrl (hgl5 q hq))
    have N9 : News s.heap L' h8 ((rl, LCg.lst ys) :: (ag, oa) :: gl) := fun q hq => N8 q (by simp only [List.mem_cons, List.mem_append, List.not_mem_nil, or_false] at hq ⊢; rcases hq with h | h | h <;> simp [h])
    clear N8
    have hyz : ys.length ≤ sizeLine := by
      rw [hys.length, sizeLine_eq, hst]
      have h1 := (foldS_res t ((tokF t.cps.toList 0 false).take j) (0, none, []) (by simp)).1
      have h2 := tokF_length t.cps.toList 0 false
      have h3 : t.cps.toList.length = t.length := by simp [Str.length]
      rw [List.length_take] at h1
      show (foldS t _).2.2.length ≤ _
      unfold foldS
      dsimp only at h1
      exact Nat.le_trans h1 (Nat.le_trans (Nat.le_of_eq (Nat.zero_add _)) (Nat.le_trans (Nat.min_le_right _ _) (Nat.le_trans h2 (Nat.le_trans (Nat.le_of_eq h3) (Nat.le_trans hlen (by decide))))))
    have hnext := foldS_take (t := t) hj
    rw [← hst] at hnext
    by_cases hq : x = Str.ofString "\""
    · subst hq
      cases op with
      | none =>
        rw [stepS_none] at hnext
        dsimp only [mS, opV] at F8
        k_steps
        rename Fr s.heap _ _ _ => F9
        rename News s.heap _ _ _ => N9
        refine ⟨rfl, _, _, _, [(rl, LCg.lst ys)], rfl, F9, fun q hq => N9 q (memSwap hq), fun q hq => by rw [List.mem_singleton.mp hq]; exact hrl, (start, some p, res), ts, ?to1, ?up1, ?uc1, ys, rfl, hnext.symm, hys, funext fun y => ?_⟩
        rotate_left 3
        dsimp only [mS, opV]
        by_cases h1 : y = ("ch" : Str)
        · subst h1; rfl
        · by_cases h2 : y = ("pos" : Str)
          · subst h2; rfl
          · by_cases h3 : y = ("start" : Str)
            · subst h3; rfl
            · by_cases h4 : y = ("open_pos" : Str)
              · subst h4; rfl
              · simp only [if_neg h1, if_neg h2, if_neg h3, if_neg h4]
      | some o =>
        dsimp only [mS, opV] at F8
        k_steps
        · have hne : start ≠ o := by assumption
          rw [stepS_ne hne] at hnext
          rename Fr s.heap _ _ _ => F9
          rename News s.heap _ _ _ => N9
          refine ⟨rfl, _, _, _, [(rl, LCg.lst (ys ++ [_]))], rfl, F9, fun q hq => N9 q (memSwap hq), fun q hq => by rw [List.mem_singleton.mp hq]; exact hrl, (p + 1, none, res ++ [Txt.slice t (some start) (some o)]), ?ts2, to, ?up2, ?uc2, (ys ++ [_]), rfl, hnext.symm, hys.append' (.cons _ _ .nil), funext fun y => ?_⟩
          rotate_left 3
          dsimp only [mS, opV]
          by_cases h1 : y = ("ch" : Str)
          · subst h1; rfl
          · by_cases h2 : y = ("pos" : Str)
            · subst h2; rfl
            · by_cases h3 : y = ("start" : Str)
              · subst h3; rfl
              · by_cases h4 : y = ("open_pos" : Str)
                · subst h4; rfl
                · simp only [if_neg h1, if_neg h2, if_neg h3, if_neg h4]
        · have heq : start = o := by first | assumption | (exact Decidable.of_not_not (by assumption))
          subst heq
          rw [stepS_eq] at hnext
          rename Fr s.heap _ _ _ => F9
          rename News s.heap _ _ _ => N9
          refine ⟨rfl, _, _, _, [(rl, LCg.lst ys)], rfl, F9, fun q hq => N9 q (memSwap hq), fun q hq => by rw [List.mem_singleton.mp hq]; exact hrl, (p + 1, none, res), ?ts3, to, ?up3, ?uc3, ys, rfl, hnext.symm, hys, funext fun y => ?_⟩
          rotate_left 3
          dsimp only [mS, opV]
          by_cases h1 : y = ("ch" : Str)
          · subst h1; rfl
          · by_cases h2 : y = ("pos" : Str)
            · subst h2; rfl
            · by_cases h3 : y = ("start" : Str)
              · subst h3; rfl
              · by_cases h4 : y = ("open_pos" : Str)
                · subst h4; rfl
                · simp only [if_neg h1, if_neg h2, if_neg h3, if_neg h4]
    · have hnext := hnext.trans (stepS_other hq)
      cases op with
      | none =>
        dsimp only [mS, opV] at F8
        k_steps
        · rename (_ == _) = true => hq2
          exact absurd (eq_of_beq hq2) hq
        · rename Fr s.heap _ _ _ => F9
          rename News s.heap _ _ _ => N9
          refine ⟨rfl, _, _, _, [(rl, LCg.lst ys)], rfl, F9, fun q hq => N9 q (memSwap hq), fun q hq => by rw [List.mem_singleton.mp hq]; exact hrl, (start, none, res), ?ts4, to, ?up4, ?uc4, ys, rfl, hnext.symm, hys, funext fun y => ?_⟩
          rotate_left 3
          dsimp only [mS, opV]
          by_cases h1 : y = ("ch" : Str)
          · subst h1; rfl
          · by_cases h2 : y = ("pos" : Str)
            · subst h2; rfl
            · by_cases h3 : y = ("start" : Str)
              · subst h3; rfl
              · by_cases h4 : y = ("open_pos" : Str)
                · subst h4; rfl
                · simp only [if_neg h1, if_neg h2, if_neg h3, if_neg h4]
      | some o =>
        dsimp only [mS, opV] at F8
        k_steps
        all_goals first
          | (rename (_ == _) = true => hq2; exact absurd (eq_of_beq hq2) hq)
          | skip
        rename Fr s.heap _ _ _ => F9
        rename News s.heap _ _ _ => N9
        refine ⟨rfl, _, _, _, [(rl, LCg.lst ys)], rfl, F9, fun q hq => N9 q (memSwap hq), fun q hq => by rw [List.mem_singleton.mp hq]; exact hrl, (start, some o, res), ?ts5, ?to5, ?up5, ?uc5, ys, rfl, hnext.symm, hys, funext fun y => ?_⟩
        rotate_left 4
        dsimp only [mS, opV]
        by_cases h1 : y = ("ch" : Str)
        · subst h1; rfl
        · by_cases h2 : y = ("pos" : Str)
          · subst h2; rfl
          · by_cases h3 : y = ("start" : Str)
            · subst h3; rfl
            · by_cases h4 : y = ("open_pos" : Str)
              · subst h4; rfl
              · simp only [if_neg h1, if_neg h2, if_neg h3, if_neg h4]
  · intro h' tk' m' nw F4 N4 hJ
    refine ex6 hJ fun st ts to up uc ys hq => ?_
    have qb0 := hq.1
    have hst := hq.2.1
    have hys := hq.2.2.1
    have qb3 := hq.2.2.2
    clear hq hJ
    subst qb0
    subst qb3
    rw [List.take_length] at hst
    have hrl : @LT.lt Nat _ rl Lg := hoff _ (.head _)
    have hoffR : ∀ q ∈ [(ag, oa)], q.1 ≠ rl := fun q hq => by rw [List.mem_singleton.mp hq]; exact Nat.ne_of_gt (Nat.lt_trans hrl hag2)
    have N5 : News s.heap L' h' [(rl, LCg.lst ys), (ag, oa)] := fun q hq => N4 q (by simp only [List.mem_cons, List.not_mem_nil, or_false] at hq ⊢; rcases hq with h | h <;> simp [h])
    clear N4
    have h2 := tokF_length t.cps.toList 0 false
    have h3 : t.cps.toList.length = t.length := by simp [Str.length]
    have hres := foldS_res t (tokF t.cps.toList 0 false) (0, none, []) (by simp)
    have hres1 : st.2.2.length ≤ 200 := by
      have h1 := hres.1
      rw [hst]
      show (List.foldl (stepS t) (0, none, []) _).2.2.length ≤ 200
      exact Nat.le_trans h1 (Nat.le_trans (Nat.le_of_eq (Nat.zero_add _)) (Nat.le_trans h2 (Nat.le_trans (Nat.le_of_eq h3) hlen)))
    have hres2 : ∀ x ∈ st.2.2, x.length ≤ 200 := fun x hx => Nat.le_trans (hres.2 x (by rw [hst] at hx; exact hx)) hlen
    have hyz : ys.length ≤ sizeLine := by rw [hys.length, sizeLine_eq]; omega
    have hw1 : (st.2.2.map (·.length)).sum + st.2.2.length ≤ 1048576 := by
      have := sum_len_le hres2
      have : 200 * st.2.2.length ≤ 200 * 200 := Nat.mul_le_mul_left _ hres1
      omega
    have hw2 : ((st.2.2 ++ [Txt.slice t (some st.1) none]).map (·.length)).sum + (st.2.2 ++ [Txt.slice t (some st.1) none]).length ≤ 1048576 := by
      have h5 := sum_len_le (c := 200) (l := st.2.2 ++ [Txt.slice t (some st.1) none]) fun x hx => by
        rcases List.mem_append.mp hx with hx | hx
        · exact hres2 x hx
        · rw [List.mem_singleton.mp hx]; exact Nat.le_trans (Txt.slice_le _ _ _) hlen
      have h6 : (st.2.2 ++ [Txt.slice t (some st.1) none]).length ≤ 201 := by rw [List.length_append]; simpa using hres1
      have : 200 * (st.2.2 ++ [Txt.slice t (some st.1) none]).length ≤ 200 * 201 := Nat.mul_le_mul_left _ h6
      omega
    have hys2 := fun u => hys.append' (StrsAre.cons (Txt.slice t (some st.1) none) u .nil)
    have hF : stripF t = Txt.join (Str.ofString "") (tailS t st) := by
      unfold stripF
      rw [if_neg (by rw [hem]; decide), hst]
    rw [hF] at hret
    unfold tailS at hret
    obtain ⟨start, op, res⟩ := st
    dsimp only at hys hw1 hw2 hys2 hret
    have gw1 := hold hw1
    have gw2 := hold hw2
    have gy2 := hold hys2
    have gret := hold hret
    clear hst hres hres1 hres2 hF hw1 hw2 hys2 h2 h3 hret
    have F5 : Fr s.heap L' h' (fun y => if y = ("ch" : Str) then uc else if y = ("pos" : Str) then up else if y = ("start" : Str) then some (.int start ts) else if y = ("open_pos" : Str) then some (opV op to) else if y = ("result" : Str) then some (.ref rl) else if y = ("addr" : Str) then some (.str t ta) else none) := F4
    clear F4
    k_steps
    · rename start < _ => hlt
      unfold Hold at gret
      rw [if_pos hlt] at gret
      rename Fr s.heap _ _ _ => F9
      exact gret _ _ _ _ F9.keep (.inr rfl)
    · rename ¬ start < _ => hlt
      unfold Hold at gret
      rw [if_neg hlt] at gret
      rename Fr s.heap _ _ _ => F9
      exact gret _ _ _ _ F9.keep (.inr rfl)
  · refine ⟨(0, none, []), ?tsA, 0, none, none, [], rfl, rfl, .nil, funext fun y => ?_⟩
    rotate_left 1
    dsimp only [mS, opV]
    by_cases h1 : y = ("ch" : Str)
    · subst h1; rfl
    · by_cases h2 : y = ("pos" : Str)
      · subst h2; rfl
      · by_cases h3 : y = ("start" : Str)
        · subst h3; rfl
        · by_cases h4 : y = ("open_pos" : Str)
          · subst h4; rfl
          · by_cases h5 : y = ("result" : Str)
            · subst h5; rfl
            · by_cases h6 : y = ("addr" : Str)
              · subst h6; rfl
              · simp only [if_neg h1, if_neg h2, if_neg h3, if_neg h4, if_neg h5, if_neg h6]
                show (match y == Str.ofString "addr" with | true => _ | false => _) = _
                rw [beq_eq_false_iff_ne.mpr h6]
                rfl
end

/-! Shares -/
section
theorem if_dup {z k : Str} {a b X : Option Value} : (if z = k then a else if z = k then b else X) = if z = k then a else X := by
  by_cases h : z = k
  · rw [if_pos h, if_pos h]
  · rw [if_neg h, if_neg h, if_neg h]
theorem if_dup2 {z k l : Str} (hkl : k ≠ l) {a b c d X : Option Value} : (if z = l then a else if z = k then b else if z = k then c else if z = l then d else X) = if z = k then b else if z = l then a else X := by
  by_cases h : z = k
  · rw [if_neg fun e => hkl (h.symm.trans e), if_pos h, if_pos h]
  · rw [if_neg h, if_neg h, if_neg h]
    exact if_dup
theorem if_dup3 {z c d l : Str} (h1 : c ≠ d) (h2 : c ≠ l) {a b e p q X : Option Value} : (if z = d then a else if z = l then b else if z = c then e else if z = d then p else if z = l then q else X) = if z = c then e else if z = d then a else if z = l then b else X := by
  by_cases h : z = c
  · rw [if_neg fun e => h1 (h.symm.trans e), if_neg fun e => h2 (h.symm.trans e), if_pos h, if_pos h]
  · rw [if_neg h, if_neg h]
    by_cases hd : z = d
    · rw [if_pos hd, if_pos hd]
    · rw [if_neg hd, if_neg hd, if_neg hd]
      exact if_dup
theorem if_own {z k e : Str} (hk : k ≠ e) {m : Str → Option Value} {x : Option Value} : (if z = e then x else m z) = if z = k then m k else if z = e then x else m z := by
  by_cases h : z = k
  · subst h
    rw [if_neg hk, if_pos rfl]
  · rw [if_neg h]
theorem if_own4 {z c d l q e : Str} (h1 : c ≠ q) (h2 : c ≠ l) (h3 : c ≠ e) (h4 : d ≠ q) (h5 : d ≠ l) (h6 : d ≠ e) (h7 : l ≠ q) {m : Str → Option Value} {u x y : Option Value} :
    (if z = q then x else if z = l then u else if z = e then y else m z) = if z = c then m c else if z = d then m d else if z = l then u else if z = q then x else if z = e then y else m z := by
  by_cases hc : z = c
  · subst hc
    rw [if_neg h1, if_neg h2, if_neg h3, if_pos rfl]
  · rw [if_neg hc]
    by_cases hd : z = d
    · subst hd
      rw [if_neg h4, if_neg h5, if_neg h6, if_pos rfl]
    · rw [if_neg hd]
      by_cases hl : z = l
      · subst hl
        rw [if_neg h7, if_pos rfl, if_pos rfl]
      · rw [if_neg hl, if_neg hl]
/-- an even number of ones -/
noncomputable def evenP (n : Nat) : Bool := (n % 2 + n / 2 % 2 + n / 4 % 2 + n / 8 % 2) % 2 == 0
noncomputable def evL (n : Nat) : List Value := (List.range n).map fun k => .bool (evenP k)
noncomputable def restS (ps : List Str) (k : Nat) : Str := Txt.join (Str.ofString "") (restL (k : Int) ps)
noncomputable def quietL (ls ps : List Str) : List Nat := (List.range 16).filter fun c => decide (ls.getD c (Str.ofString "") = restS ps 0)
noncomputable def dueI (q : List Nat) (lost : Nat) : Int := if q.any (fun c => !evenP (lost &&& c)) then 0 else (q.length : Int)
noncomputable def dueJ (q : List Nat) (lost : Nat) (n : Int) : Int := if q.any (fun c => !evenP (lost &&& c)) then 0 else n
theorem dueJ_next {q : List Nat} {lost j c : Nat} {n : Int} (e : q[j]? = some c) : dueJ (q.take (j + 1)) lost n = if !evenP (lost &&& c) then 0 else dueJ (q.take j) lost n := by
  unfold dueJ
  rw [List.take_add_one, e, List.any_append]
  simp only [Option.toList_some, List.any_cons, List.any_nil, Bool.or_false]
  cases (q.take j).any _ <;> cases evenP (lost &&& c) <;> rfl
theorem paired_at {G : Nat → Value → Prop} : ∀ {l : List Nat} {ys : List Value}, Paired G l ys → ∀ (j : Nat) (v : Value), ys[j]? = some v → ∃ c : Nat, l[j]? = some c ∧ G c v
  | _, _, .nil, _, _, e => by simp at e
  | _, _, .cons g h, 0, _, e => by simp at e; subst e; exact ⟨_, rfl, g⟩
  | _, _, .cons g h, j + 1, v, e => by
    obtain ⟨c, h1, h2⟩ := paired_at h j v (by simpa using e)
    exact ⟨c, by simpa using h1, h2⟩
theorem paired_len {G : Nat → Value → Prop} : ∀ {l : List Nat} {ys : List Value}, Paired G l ys → ys.length = l.length
  | _, _, .nil => rfl
  | _, _, .cons _ h => by rw [List.length_cons, List.length_cons, paired_len h]
noncomputable def sharesB (ls ps : List Str) : Bool := (List.range 16).all fun lost => decide (PySem.Spec.countIn (.str (restS ps lost)) (ls.map PyData.str) = dueI (quietL ls ps) lost)
section
variable {prog : Program} {w : World} {A : Around} {E : Value → Shared → Prop} {s : Shared} {a b v : Int} {t u : Tok} {h₀ : Heap} {L d : Addr} {news : List (Addr × Obj)} {vs : List Value} {value slice : PySem.Expr} {x : Value}
theorem andB_is {Q : Value → Shared → Prop} (e : Builtin.bitAnd a b = v) (h : ∀ t', Q (.int v t') { s with toks := s.toks + 1 }) : wpAny (model prog w) A (binaryOp .BitAnd (.int a t) (.int b u)) Q E s := and_int (by rw [e]; exact h _)
theorem item_own {Q : Value → Shared → Prop} (N : News h₀ L s.heap news) {n : Nat} (hm : (d, lstN vs n) ∈ news) (h0 : 0 ≤ a) (hhi : a < 2 ^ 63) (hx : vs[a.toNat]? = some x) (h : Q x s)
    (hs : subscripted slice false (.ref d) (.int a u) = operate [.ref d, .int a u] (getItem (.ref d) (.int a u)) := by with_unfolding_all rfl) : wpAny (model prog w) A (subscriptTail value slice (.ref d) (.int a u)) Q E s := by
  have hl' : s.heap.IsList d vs.toArray := ⟨_, (N _ hm).1, rfl, _, rfl⟩
  exact tail_any hl'.typeIs slot_list_getitem.lookup (wpAny_getItem_list hl' h0 hhi (by simpa using hx) h) hs
theorem item_ownA {Q : Value → Shared → Prop} (N : News h₀ L s.heap news := by k_asm) {n : Nat} (hm : (d, lstN vs n) ∈ news := by first | assumption | k_mem) (h0 : 0 ≤ a := by omega) (hhi : a < 2 ^ 63 := by omega) (hx : vs[a.toNat]? = some x := by assumption) (h : Q x s)
    (hs : subscripted slice false (.ref d) (.int a u) = operate [.ref d, .int a u] (getItem (.ref d) (.int a u)) := by with_unfolding_all rfl) : wpAny (model prog w) A (subscriptTail value slice (.ref d) (.int a u)) Q E s := item_own N hm h0 hhi hx h hs
theorem len_own {l : Addr} {ys : List Value} {n : Nat} {Q : Value → Shared → Prop} (hl : s.heap.IsList l ys.toArray := by is_list) (hn : ys.length = n := by assumption) (hb : n ≤ 1000 := by assumption) (h : ∀ t', Q (.int (n : Int) t') { s with toks := s.toks + 1 + 1 }) : wpAny (model prog w) A (call (.builtin "len") [.ref l]) Q E s :=
  PyProof.Rows.len_list hl (by rw [List.size_toArray, hn]; omega) (by rw [List.size_toArray, hn]; exact h _)
theorem countM_base {l : Addr} {n : Nat} {m : Str → Option Value} {pl : Sem Bool} {Q : Value × List Value → Shared → Prop} (F : Fr h₀ L s.heap m := by k_asm) (hl : h₀.get? l = some (lstN vs n) := by assumption) (h : Q (.builtin "list.count", [.ref l]) s) : wpAny (model prog w) A (getMethod (.ref l) "count" pl) Q E s :=
  getMethod_builtin (T := "list") ⟨_, F.keep _ _ hl, rfl⟩ PySem.F.plainAttrs_list PySem.F.slot_list_count PySem.F.type_list_count (fun a e => by cases e; exact ⟨_, F.keep _ _ hl, rfl⟩) h
theorem countC_base {l : Addr} {ls : List Str} {k : Str} {m : Str → Option Value} {Q : Value → Shared → Prop} (F : Fr h₀ L s.heap m := by k_asm) (hl : h₀.IsList l vs.toArray := by assumption) (hi : StrsAre vs ls := by assumption) (h : ∀ t', Q (.int (PySem.Spec.countIn (.str k) (ls.map PyData.str)) t') { s with toks := s.toks + 1 }) : wpAny (model prog w) A (call (.builtin "list.count") [.ref l, .str k t]) Q E s :=
  count_list_strs (hl.at fun o e => F.keep _ o e) hi (h _)
end
theorem low_and {i : Nat} (hi : i < 15) : Builtin.bitAnd (1 + (i : Int)) (1 + (i : Int) - 1) = (((i + 1) &&& i : Nat) : Int) := by
  have h : ∀ i : Fin 15, Builtin.bitAnd (1 + (i.val : Int)) (1 + (i.val : Int) - 1) = (((i.val + 1) &&& i.val : Nat) : Int) := by decide +kernel
  exact h ⟨i, hi⟩
theorem low_item {i : Nat} (hi : i < 15) : (evL (i + 1))[((((i + 1) &&& i : Nat) : Int)).toNat]? = some (.bool (!evenP (i + 1))) := by
  have h : ∀ i : Fin 15, ((i.val + 1) &&& i.val) < i.val + 1 ∧ evenP ((i.val + 1) &&& i.val) = !evenP (i.val + 1) := by decide +kernel
  obtain ⟨h1, h2⟩ := h ⟨i, hi⟩
  unfold evL
  rw [Int.toNat_natCast, List.getElem?_map, List.getElem?_range h1]
  simp [h2]
theorem evL_succ (n : Nat) : evL n ++ [.bool (evenP n)] = evL (n + 1) := by
  unfold evL; rw [List.range_succ, List.map_append]; rfl
theorem all_and {i c : Nat} (hi : i < 16) (hc : c < 16) : Builtin.bitAnd (0 + (i : Int)) (c : Int) = ((i &&& c : Nat) : Int) := by
  have h : ∀ i c : Fin 16, Builtin.bitAnd (0 + (i.val : Int)) (c.val : Int) = ((i.val &&& c.val : Nat) : Int) := by decide +kernel
  exact h ⟨i, hi⟩ ⟨c, hc⟩
theorem all_item {n : Nat} (hn : n < 16) : (evL (15 + 1))[(n : Int).toNat]? = some (.bool (evenP n)) := by
  unfold evL
  rw [Int.toNat_natCast, List.getElem?_map, List.getElem?_range hn]
  rfl
local macro_rules | `(tactic| walk_at $s:str) => kP s [("getMethod ref", kA ``countM_base), ("call builtin:list.count", kI 1 (kA ``countC_base)), ("call builtin:len", kI 1 (kA ``len_own)), ("binaryOp BitAnd int int", kI 1 (kB ``andB_is)), ("subscriptTail", kA ``item_ownA), ("CompSrcT", kI 1 (kN ``srcT 16)), ("call builtin:list.append", kI 3 (kA ``append_ownN)), ("exec For Name Call", kH), ("exec For Name Name cons nil", kH), ("call ref", kR 81)]
theorem c_shares : ∀ (w : World) (loose : List Str) (mean : ExcName → Option Value) (mg mb : Str → Option Value) (dp un : Nat) (gd : Option (List Code)) (cn : Str) (cs : Scope) (a : Addr) (ccd : Value) (cl : List (Str × Addr)) (outer : List Env) (A₀ : Around) (base h₀ : Heap) (L : Addr) (m : Str → Option Value) (s : Shared) (Q E : Value → Shared → Prop) (ll lp : Addr) (ln : Nat) (vs : List Value) (ls : List Str) (p0 p1 p2 p3 : Str) (v0 v1 v2 v3 : Tok),
    Site w (hd.heap_39 w.params) loose mean mg mb dp un cs outer A₀ base h₀ L m 40 s → s.heap.get? ll = some (lstN vs ln) → StrsAre vs ls → ls.length = 16 → s.heap.IsList lp [.str p0 v0, .str p1 v1, .str p2 v2, .str p3 v3].toArray →
    p0.length ≤ 2 → p1.length ≤ 2 → p2.length ≤ 2 → p3.length ≤ 2 →
    (∀ (h' : Heap) (tk' : Nat), (∀ b o, s.heap.get? b = some o → h'.get? b = some o) → 
      Q (.bool (sharesB ls [p0, p1, p2, p3])) { s with heap := h', toks := tk' }) →
      wpAny (model PySem.Challenge.rw_zo0006_01.row.prog w) (ktrTop dp un gd cn cs L a ccd cl outer) (call (.ref 86) [.ref ll, .ref lp]) Q E s := by
  k_fill
  w_top off
  intro w loose mean mg mb dp un gd cn cs a ccd cl outer A₀ base h₀ L m s Q E ll lp ln vs ls p0 p1 p2 p3 v0 v1 v2 v3 S hlo hvs hls hlp hp0 hp1 hp2 hp3 hret
  obtain ⟨hB, hF, hK, hT, hk, hdp, hun⟩ := S
  have hll : s.heap.IsList ll vs.toArray := ⟨_, hlo, rfl, _, rfl⟩
  refine wpAny_call (enter0C (binds := [("lefts", .ref ll), ("pieces", .ref lp)]) hB hF hK hT rfl rfl hk (by k_is) (by k_is) (by ktr_room) (BindsTo.of_eq rfl) (by rfl) (by decide +kernel) ?_ rfl rfl rfl)
  intro L' h₁ tk cells F1 N1 Y1 B1 X1 T1 st1
  k_cells Y1
  dsimp only
  show wpAny _ _ _ _ _ _
  k_fold
  generalize hm0 : bindL _ _ _ = m0 at F1
  clear hm0
  k_steps
  rename Fr s.heap _ _ _ => F2
  rename News s.heap _ _ [(_, W.listOf _ _), _, _] => N2
  rename_i ev hh1 ll1 hh2
  unfold Hold
  refine For_C F2 ?_ (by intro _; rfl)
  k_steps
  rename IsRange _ _ _ _ _ _ _ _ => R3
  rename News s.heap _ _ _ => N3
  rename Fr s.heap _ _ _ => F3
  unfold Hold
  refine iter_rangeG (n := 15) (by rfl) R3 (by decide) (by rfl) F3 N3 (fun i m nw gs => Hold (gs = s.gens ∧ ∃ (u : Option Value) (k : Nat) (o1 o2 : Obj), nw = [(ev, lstN (evL (i + 1)) k), (L' + 1 + 1, o1), (L' + 1, o2)] ∧ o1.data = .cell (some (.ref lp)) ∧ o2.data = .cell (some (.ref ll)) ∧
    m = fun (z : Str) => if z = ("lost" : Str) then u else if z = ("even" : Str) then some (.ref ev) else m0 z)) ?_ ?_ ?_
  · refine ⟨rfl, m0 "lost", 0, _, _, rfl, by assumption, by assumption, funext fun z => ?_⟩
    exact if_own (by decide)
  · intro i tv m₁ nw h gs tk I oI hi hJ hoff F4 N4
    have qa0 := hJ.1
    refine ex4 hJ.2 fun u k o1 o2 hq => ?_
    have qb0 := hq.1
    have c1 := hq.2.1
    have c2 := hq.2.2.1
    have qb3 := hq.2.2.2
    clear hq hJ
    subst qa0
    subst qb0
    subst qb3
    clear F3 N3 R3
    have hand := low_and hi
    have hit := low_item hi
    have hq0 : (0 : Int) ≤ (((i + 1) &&& i : Nat) : Int) := Int.natCast_nonneg _
    have hq1 : (((i + 1) &&& i : Nat) : Int) < 16 := by
      have := @Nat.and_le_right (i + 1) i
      omega
    generalize (((i + 1) &&& i : Nat) : Int) = q at hand hit hq0 hq1
    have hez : (evL (i + 1)).length ≤ sizeLine := by rw [sizeLine_eq]; unfold evL; simp; omega
    have hn1 : (@Ne Nat I ev) := Ne.symm (hoff (ev, lstN (evL (i + 1)) k) (by simp))
    have hn2 : (@Ne Nat I (L' + 1 + 1)) := Ne.symm (hoff (L' + 1 + 1, o1) (by simp))
    have hn3 : (@Ne Nat I (L' + 1)) := Ne.symm (hoff (L' + 1, o2) (by simp))
    k_steps
    rename Fr s.heap _ _ _ => F5
    rename News s.heap _ _ _ => N5
    refine TurnG.intro F5 N5 (news' := [(ev, lstN (evL (i + 1 + 1)) (k + 1)), (L' + 1 + 1, o1), (L' + 1, o2)]) (fun p hp => ?_) (fun p hp => ?_) ⟨rfl, ?u, k + 1, o1, o2, rfl, c1, c2, funext fun z => ?_⟩
    rotate_left 3
    · exact if_dup
    · rw [← evL_succ (i + 1)] at hp
      cases hb : evenP (i + 1) <;> rw [hb] at hp <;> exact hp
    · simp only [List.mem_cons, List.not_mem_nil, or_false] at hp
      rcases hp with rfl | rfl | rfl
      · exact Ne.symm hn1
      · exact Ne.symm hn2
      · exact Ne.symm hn3
  · intro h' gs tk' m' nw F4 N4 hJ
    have qa0 := hJ.1
    refine ex4 hJ.2 fun u k o1 o2 hq => ?_
    have qb0 := hq.1
    have c1 := hq.2.1
    have c2 := hq.2.2.1
    have qb3 := hq.2.2.2
    clear hq hJ
    subst qa0
    subst qb0
    subst qb3
    clear F3 N3 R3
    k_steps
    unfold Hold
    rename Fr s.heap _ _ _ => F5
    rename News s.heap _ _ _ => N5
    refine restT (fun c => decide (ls.getD c (Str.ofString "") = restS [p0, p1, p2, p3] 0)) (fun i v => ∃ t, v = .int (i : Int) t) trivial ?_ ?_
    · intro i v I oI C oC D m₂ ys h tk E' hi hv hC hx F6 N6 off ne
      obtain ⟨t, rfl⟩ := hv
      clear F5 N5
      obtain ⟨y, ty, hy, hyv⟩ : ∃ y ty, ls[i]? = some y ∧ vs[((0 : Int) + (i : Int)).toNat]? = some (.str y ty) := by
        have h1 : i < ls.length := by omega
        obtain ⟨ty, h2⟩ := hvs.get i ls[i] (List.getElem?_eq_getElem h1)
        exact ⟨ls[i], ty, List.getElem?_eq_getElem h1, by rw [show ((0 : Int) + (i : Int)).toNat = i by omega]; exact h2⟩
      have hgd : ls.getD i (Str.ofString "") = y := by rw [List.getD_eq_getElem?_getD, hy]; rfl
      have hgd2 : ls.getD ((0 : Int) + (i : Int)).toNat Str.empty = y := by rw [show ((0 : Int) + (i : Int)).toNat = i by omega, List.getD_eq_getElem?_getD, hy]; rfl
      k_steps
      unfold Hold
      rename Fr s.heap _ _ _ => F7
      rename News s.heap _ _ _ => N7
      refine c_rest _ _ _ _ _ _ _ _ _ _ _ _ _ _ _ _ _ _ _ _ _ _ lp 0 _ p0 p1 p2 p3 v0 v1 v2 v3 ⟨B1, F7, X1, T1, rfl, by show dp + 1 + 20 < _; exact room1 (by assumption) (by decide), by show un + 3 + 10 * 20 < _; exact room3 (by assumption) (by decide)⟩ (hlp.at fun o e => F7.keep _ o e) (by decide) (by decide) hp0 hp1 hp2 hp3 ?_
      intro h8 tk8 t8 up8
      have F8 := F7.keeps up8
      have N8 := N7.grown up8
      clear F7 N7
      k_steps
      all_goals first
        | exact ⟨_, _, rfl, F8, N8, _, by rw [Int.zero_add]⟩
        | exact ⟨_, _, rfl, F8, N8, trivial⟩
        | (rw [Bool.eq_iff_iff, beq_iff_eq, decide_eq_true_iff, hgd, hgd2]; exact Iff.rfl)
    · intro ys hys D h8 tk8 F8 N8 o8
      clear F5 N5
      dsimp only
      k_steps
      unfold Hold
      have hq16 : ∀ c ∈ quietL ls [p0, p1, p2, p3], c < 16 := fun c hc => List.mem_range.mp (List.mem_filter.mp hc).1
      have hql : (quietL ls [p0, p1, p2, p3]).length ≤ 16 := Nat.le_trans (List.length_filter_le _ _) (by simp)
      have hys' : Paired (fun (i : Nat) v => ∃ t, v = Value.int (i : Int) t) (quietL ls [p0, p1, p2, p3]) ys := hys
      clear hys
      generalize hqd : quietL ls [p0, p1, p2, p3] = ql at *
      have hyl := paired_len hys'
      refine For_C F8 ?_ (by intro _; rfl)
      k_steps
      rename IsRange _ _ _ _ _ _ _ _ => R9
      rename News s.heap _ _ _ => N9
      rename Fr s.heap _ _ _ => F9
      unfold Hold
      refine iter_rangeG (n := 16) (by rfl) R9 (by decide) (by rfl) F9 N9 (fun i m nw gs => Hold (gs = s.gens ∧ (∀ j, j < i → PySem.Spec.countIn (.str (restS [p0, p1, p2, p3] j)) (ls.map PyData.str) = dueI ql j) ∧ ∃ (ul ud uc : Option Value), nw = [(D, LCg.lst ys), (ev, lstN (evL (15 + 1)) k), (L' + 1 + 1, o1), (L' + 1, o2)] ∧
        m = fun (z : Str) => if z = ("chosen" : Str) then uc else if z = ("due" : Str) then ud else if z = ("lost" : Str) then ul else if z = ("quiet" : Str) then some (.ref D) else if z = ("even" : Str) then some (.ref ev) else m0 z)) ?_ ?_ ?_
      · refine ⟨rfl, fun j hj => absurd hj (Nat.not_lt_zero _), u, m0 "due", m0 "chosen", rfl, funext fun z => ?_⟩
        exact if_own4 (by decide) (by decide) (by decide) (by decide) (by decide) (by decide) (by decide)
      · intro i tv m₁ nw h gs tk I oI hi hJ hoff F10 N10
        have qa0 := hJ.1
        have hpre := hJ.2.1
        refine ex3 hJ.2.2 fun ul ud uc hq => ?_
        have qb0 := hq.1
        have qb1 := hq.2
        clear hq hJ
        subst qa0
        subst qb0
        subst qb1
        clear F9 N9 R9
        have hq1000 : ql.length ≤ 1000 := by omega
        k_steps
        rename Fr s.heap _ _ _ => F11
        rename News s.heap _ _ _ => N11
        unfold Hold
        have hn0 : (@Ne Nat I D) := Ne.symm (hoff (D, LCg.lst ys) (by simp))
        have hn1 : (@Ne Nat I ev) := Ne.symm (hoff (ev, lstN (evL (15 + 1)) k) (by simp))
        have hn2 : (@Ne Nat I (L' + 1 + 1)) := Ne.symm (hoff (L' + 1 + 1, o1) (by simp))
        have hn3 : (@Ne Nat I (L' + 1)) := Ne.symm (hoff (L' + 1, o2) (by simp))
        refine For_C F11 ?_ (by intro _; rfl)
        k_steps
        unfold Hold
        refine iter_listG (its := ys.toArray) (by rfl) F11 N11 (fun j m nw gs => Hold (gs = s.gens ∧ ∃ (uc : Option Value) (td : Tok), nw = [(I, oI), (D, LCg.lst ys), (ev, lstN (evL (15 + 1)) k), (L' + 1 + 1, o1), (L' + 1, o2)] ∧
          m = fun (z : Str) => if z = ("chosen" : Str) then uc else if z = ("due" : Str) then some (.int (dueJ (ql.take j) i ql.length) td) else if z = ("lost" : Str) then some (.int (0 + (i : Int)) tv) else if z = ("quiet" : Str) then some (.ref D) else if z = ("even" : Str) then some (.ref ev) else m0 z)) ?_ ?_ ?_ ?_
        · rintro j m nw gs ⟨_, uc, td, rfl, _⟩
          exact .inr ⟨LCg.lst ys, by simp, rfl, _, rfl⟩
        · refine ⟨rfl, uc, ?td, rfl, funext fun z => ?_⟩
          rotate_left 1
          exact if_dup3 (c := ("chosen" : Str)) (d := ("due" : Str)) (l := ("lost" : Str)) (by decide) (by decide)
        · intro j v m₁ nw h gs tk I2 oI2 hv hJ hoff2 F12 N12
          have qa0 := hJ.1
          refine ex2 hJ.2 fun uc2 td hq => ?_
          have qb0 := hq.1
          have qb1 := hq.2
          clear hq hJ
          subst qa0
          subst qb0
          subst qb1
          clear F11 N11
          obtain ⟨c, hc, t3, rfl⟩ := paired_at hys' j v (by simpa using hv)
          have hc16 := hq16 c (List.mem_of_getElem? hc)
          have hand := all_and hi hc16
          have hlow : (i &&& c) < 16 := Nat.lt_of_le_of_lt Nat.and_le_left hi
          have hitm := all_item hlow
          have hnext := dueJ_next (lost := i) (n := (ql.length : Int)) hc
          have hp0 : (0 : Int) ≤ ((i &&& c : Nat) : Int) := Int.natCast_nonneg _
          have hp1 : ((i &&& c : Nat) : Int) < 16 := by omega
          generalize hzz : ((i &&& c : Nat) : Int) = zz at hand hitm hp0 hp1
          have hm0 : (@Ne Nat I2 I) := Ne.symm (hoff2 (I, oI) (by simp))
          have hm1 : (@Ne Nat I2 D) := Ne.symm (hoff2 (D, LCg.lst ys) (by simp))
          cases hev : evenP (i &&& c) with
          | false =>
            rw [hev] at hitm hnext
            k_steps
            rename Fr s.heap _ _ _ => F13
            rename News s.heap _ _ _ => N13
            refine TurnG.intro F13 N13 (news' := [(I, oI), (D, LCg.lst ys), (ev, lstN (evL (15 + 1)) k), (L' + 1 + 1, o1), (L' + 1, o2)]) (fun p hp => hp) hoff2 ⟨rfl, ?uc5, ?td5, rfl, funext fun z => ?_⟩
            rotate_left 2
            rw [hnext]
            exact if_dup2 (k := ("chosen" : Str)) (l := ("due" : Str)) (by decide)
          | true =>
            rw [hev] at hitm hnext
            k_steps
            rename Fr s.heap _ _ _ => F13
            rename News s.heap _ _ _ => N13
            refine TurnG.intro F13 N13 (news' := [(I, oI), (D, LCg.lst ys), (ev, lstN (evL (15 + 1)) k), (L' + 1 + 1, o1), (L' + 1, o2)]) (fun p hp => hp) hoff2 ⟨rfl, ?uc6, ?td6, rfl, funext fun z => ?_⟩
            rotate_left 2
            rw [hnext]
            exact if_dup
        · intro h' gs tk' m' nw F12 N12 hJ
          have qa0 := hJ.1
          refine ex2 hJ.2 fun uc2 td hq => ?_
          have qb0 := hq.1
          have qb1 := hq.2
          clear hq hJ
          subst qa0
          subst qb0
          subst qb1
          clear F11 N11
          rw [List.size_toArray, hyl, List.take_length] at F12
          k_steps
          unfold Hold
          rename Fr s.heap _ _ _ => F14
          rename News s.heap _ _ _ => N14
          refine c_rest _ _ _ _ _ _ _ _ _ _ _ _ _ _ _ _ _ _ _ _ _ _ lp (0 + (i : Int)) _ p0 p1 p2 p3 v0 v1 v2 v3 ⟨B1, F14, X1, T1, rfl, by show dp + 1 + 20 < _; exact room1 (by assumption) (by decide), by show un + 3 + 10 * 20 < _; exact room3 (by assumption) (by decide)⟩ (hlp.at fun o e => F14.keep _ o e) (by omega) (by omega) hp0 hp1 hp2 hp3 ?_
          intro h15 tk15 t15 up15
          have F15 := F14.keeps up15
          have N15 := N14.grown up15
          clear F14 N14
          k_steps
          · rename PySem.Spec.countIn _ _ ≠ _ => hne
            have hb : sharesB ls [p0, p1, p2, p3] = false := by
              unfold sharesB
              rw [List.all_eq_false]
              refine ⟨i, List.mem_range.mpr hi, ?_⟩
              rw [hqd]
              simp only [decide_eq_true_eq]
              intro he
              apply hne
              rw [show restS [p0, p1, p2, p3] i = Txt.join (Str.ofString "") (restL (0 + (i : Int)) [p0, p1, p2, p3]) by unfold restS; rw [Int.zero_add]] at he
              exact he
            rw [hb] at hret
            rename Fr s.heap _ _ _ => F16
            exact hret _ _ F16.keep
          · rename PySem.Spec.countIn _ _ = _ => heq
            rename Fr s.heap _ _ _ => F16
            rename News s.heap _ _ _ => N16
            refine TurnG.intro F16 N16 (news' := [(D, LCg.lst ys), (ev, lstN (evL (15 + 1)) k), (L' + 1 + 1, o1), (L' + 1, o2)]) (fun p hp => hp) hoff ⟨rfl, ?_, ?ul7, ?ud7, ?uc7, rfl, ?_⟩
            · intro j hj
              rcases Nat.lt_or_ge j i with h | h
              · exact hpre j h
              · have : j = i := by omega
                subst this
                rw [show restS [p0, p1, p2, p3] j = Txt.join (Str.ofString "") (restL (0 + (j : Int)) [p0, p1, p2, p3]) by unfold restS; rw [Int.zero_add]]
                exact heq
            rotate_left 3
            funext z
            rfl
      · intro h' gs tk' m' nw F10 N10 hJ
        have qa0 := hJ.1
        have hpre := hJ.2.1
        refine ex3 hJ.2.2 fun ul ud uc hq => ?_
        have qb0 := hq.1
        have qb1 := hq.2
        clear hq hJ
        subst qa0
        subst qb0
        subst qb1
        clear F9 N9 R9
        have hb : sharesB ls [p0, p1, p2, p3] = true := by
          unfold sharesB
          rw [List.all_eq_true]
          intro j hj
          rw [hqd, decide_eq_true_eq]
          exact hpre j (List.mem_range.mp hj)
        rw [hb] at hret
        k_steps
        rename Fr s.heap _ _ _ => F11
        exact hret _ _ F11.keep
end

/-! Two -/
section
noncomputable abbrev twoE (elt t0 i0 t1 i1 : PySem.Expr) (ifs : List PySem.Expr) (scope : Scope) (pos : Pos) : PySem.Expr := .ListComp elt [⟨t0, i0, [], 0⟩, ⟨t1, i1, ifs, 0⟩] scope pos
section
variable {prog : Program} {w : World} {A : Around} {R : Result → Shared → Prop} {s : Shared} {elt t0 i0 t1 i1 : PySem.Expr} {ifs : List PySem.Expr} {scope : Scope} {pos : Pos} {it acc : Value} {env : Env}
theorem codeAny_two1 (I : Nat → Shared → Prop)
    (turn : ∀ n s, I n s → wpAny (model prog w) A (pyNext it) (fun r s₁ => match r with
      | none => R (.ok .next) s₁
      | some v => wpAny (model prog w) A (assign t1 env v) (fun _ s₂ =>
          wpAny (model prog w) A (forIn ifs true fun c r => if r = true then do let ok ← isTrue c env (eval c env); pure (ForInStep.yield ok) else pure (ForInStep.yield r)) (fun ok s₃ =>
            if ok = true then wpAny (model prog w) A (eval elt env) (fun x s₄ => wpAny (model prog w) A (call (.builtin "list.append") [acc, x]) (fun _ s₅ => ∃ m, m < n ∧ I m s₅) NoE s₄) NoE s₃
            else ∃ m, m < n ∧ I m s₃) NoE s₂) NoE s₁) NoE s)
    (n : Nat) (h : I n s) (ht : ∀ v, letOwnedTupleGo t1 it v = pure ()) : codeAny (model prog w) A (.compLoop (twoE elt t0 i0 t1 i1 ifs scope pos) 1 it acc env) R s := by
  refine codeAny_loop rfl I (fun n s hI => ?_) n h
  show wpAny _ A ((compTurn (twoE elt t0 i0 t1 i1 ifs scope pos) 1 it acc env).onRaise (fun x => do noteFrame x env; theTreesLotGoes x)) _ _ s
  refine wpAny_noted ?_
  rw [compTurn_two1]
  refine wpAny_bind (wpAny_standAt (wpAny_bind (wpAny_mono (turn n s hI) (fun r s₁ h₁ => ?_) fun _ _ h' => h'.elim)))
  cases r with
  | none => exact wpAny_pure h₁
  | some v =>
    refine wpAny_bind (wpAny_of_eq (ht v) ?_)
    refine wpAny_bind (wpAny_mono h₁ (fun _ s₂ h₂ => wpAny_bind (wpAny_mono h₂ (fun ok s₃ h₃ => ?_) fun _ _ h' => h'.elim)) fun _ _ h' => h'.elim)
    cases ok with
    | false => exact wpAny_pure ⟨rfl, h₃⟩
    | true =>
      exact wpAny_bind (wpAny_bind (wpAny_mono h₃ (fun x s₄ h₄ => wpAny_bind (wpAny_mono h₄ (fun _ s₅ h₅ => wpAny_pure (wpAny_pure ⟨rfl, h₅⟩)) fun _ _ h' => h'.elim)) fun _ _ h' => h'.elim))
theorem codeAny_two_start {d : Nat} {g : Comprehension} (hg : [(⟨t0, i0, [], 0⟩ : Comprehension), ⟨t1, i1, ifs, 0⟩][d]? = some g) (hga : g.is_async = 0)
    (h0 : codeAny (model prog w) A (.compLoop (twoE elt t0 i0 t1 i1 ifs scope pos) d it acc env) R s)
    (h : wpAny (model prog w) A (pyIter it) (fun it' s' => codeAny (model prog w) A (.compLoop (twoE elt t0 i0 t1 i1 ifs scope pos) d it' acc env) R s') NoE s) :
    codeAny (model prog w) A (.compStart (twoE elt t0 i0 t1 i1 ifs scope pos) d it acc env) R s := by
  refine codeAny_of_tree ?_
  show wpAny _ _ ((compStart (twoE elt t0 i0 t1 i1 ifs scope pos) d it acc env).onRaise (fun x => do noteFrame x env; standAt theWindowsPlace)) _ _ s
  refine wpAny_notedAt ?_
  unfold compStart
  have hc : (clausesOf (twoE elt t0 i0 t1 i1 ifs scope pos))[d]? = some g := hg
  rw [hc]
  simp only [Option.elim, hga, bne_self_eq_false, Bool.false_eq_true, if_false]
  show wpAny _ _ (ask >>= _) _ _ s
  refine wpAny_bind (wpAny_askSetting (wpAny_ite ?_))
  split
  · first
      | exact wpAny_bind (wpAny_pure (wpAny_pure (And.intro rfl h0)))
      | exact wpAny_pure (And.intro rfl h0)
  · first
      | exact wpAny_bind (wpAny_rule (wpAny_bind (wpAny_standAt (wpAny_bind (wpAny_mono h (fun it' s' h' => wpAny_pure (And.intro rfl h')) fun _ _ x => x.elim)))))
      | (refine wpAny_bind (wpAny_rule ?_); show wpAny _ _ (standAt g.iter.pos >>= _) _ _ s; exact wpAny_bind (wpAny_standAt (wpAny_bind (wpAny_mono h (fun it' s' h' => wpAny_pure (And.intro rfl h')) fun _ _ x => x.elim))))
theorem codeAny_two0 (I : Nat → Shared → Prop)
    (turn : ∀ n s, I n s → wpAny (model prog w) A (pyNext it) (fun r s₁ => match r with
      | none => R (.ok .next) s₁
      | some v => wpAny (model prog w) A (assign t0 env v) (fun _ s₂ => wpAny (model prog w) A (eval i1 env) (fun xv s₃ => wpAny (model prog w) A (pyIter xv) (fun it' s₄ =>
          codeAny (model prog w) A (.compStart (twoE elt t0 i0 t1 i1 ifs scope pos) 1 it' acc env) (fun r s₅ => r = .ok .next ∧ ∃ m, m < n ∧ I m s₅) s₄) NoE s₃) NoE s₂) NoE s₁) NoE s)
    (n : Nat) (h : I n s) (ht : ∀ v, letOwnedTupleGo t0 it v = pure ()) (hs : ∀ x, foldedSetIterable i1 env x = pure x) : codeAny (model prog w) A (.compLoop (twoE elt t0 i0 t1 i1 ifs scope pos) 0 it acc env) R s := by
  refine codeAny_loop rfl I (fun n s hI => ?_) n h
  show wpAny _ A ((compTurn (twoE elt t0 i0 t1 i1 ifs scope pos) 0 it acc env).onRaise (fun x => do noteFrame x env; theTreesLotGoes x)) _ _ s
  refine wpAny_noted ?_
  rw [compTurn_two0]
  refine wpAny_bind (wpAny_standAt (wpAny_bind (wpAny_mono (turn n s hI) (fun r s₁ h₁ => ?_) fun _ _ h' => h'.elim)))
  cases r with
  | none => exact wpAny_pure h₁
  | some v =>
    refine wpAny_bind (wpAny_of_eq (ht v) ?_)
    refine wpAny_bind (wpAny_mono h₁ (fun _ s₂ h₂ => ?_) fun _ _ h' => h'.elim)
    refine wpAny_bind (wpAny_mono h₂ (fun xv s₃ h₃ => ?_) fun _ _ h' => h'.elim)
    refine wpAny_bind (wpAny_standAt (wpAny_bind (wpAny_of_eq (hs xv) ?_)))
    refine wpAny_bind (wpAny_holding (wpAny_mono h₃ (fun it' s₄ h₄ => ?_) fun _ _ h' => h'.elim))
    refine wpAny_bind (wpAny_runOwn (codeAny_mono h₄ fun r s₅ h₅ => ?_))
    obtain ⟨rfl, h₅⟩ := h₅
    exact wpAny_pure ⟨rfl, h₅⟩
end
section
variable {prog : Program} {w : World} {A : Around} {E : Value → Shared → Prop} {h₀ : Heap} {L : Addr} {m : Str → Option Value} {env : Env}
/-- the inner source stands -/
noncomputable def InnerAt (prog : Program) (w : World) (A : Around) (h₀ : Heap) (L : Addr) (m : Str → Option Value) (env : Env) (ct elt : PySem.Expr) (x0 x1 : Str) (scope : Scope) (cl : List (Str × Addr)) (s : Shared) (news : List (Addr × Obj)) (I0 C D : Addr) (oI0 oC : Obj) (v : Value) (ys : List Value) (Ji : Nat → List Value → Prop) (Jn : List Value → Prop) (it : Value) (s'' : Shared) : Prop :=
  ∃ (I1 : Addr) (fp : List Addr) (n : Nat) (P : Nat → Value → Prop) (St : Nat → Heap → Prop) (h' : Heap) (tk' : Nat), it = .ref I1 ∧ s'' = { s with heap := h', toks := tk' } ∧ Walks prog w A I1 fp [I1] n P St ∧ (∀ i h, St i h → ∃ o, h.get? I1 = some o) ∧ StOk h₀ L I1 ((I0, oI0) :: news) St ∧ St 0 h' ∧
    (∀ b ∈ fp, b ≠ C ∧ b ≠ D) ∧ I1 ≠ L ∧ h₀.get? I1 = none ∧ (∀ p ∈ (I0, oI0) :: (C, oC) :: (D, LCg.lst ys) :: news, p.1 ≠ I1) ∧ Fr h₀ L h' m ∧ News h₀ L h' ((I0, oI0) :: (C, oC) :: (D, LCg.lst ys) :: news) ∧ Ji 0 ys ∧
    (∀ j v1 ys' oI1 oC' m₃ h tk (E' : Value → Shared → Prop), j < n → P j v1 → Ji j ys' → LCg.NsObj oC' m₃ → m₃ x1 = some v1 → m₃ x0 = some v → Fr h₀ L h m → News h₀ L h ((I1, oI1) :: (I0, oI0) :: (C, oC') :: (D, LCg.lst ys') :: news) →
      wpAny (model prog w) A (isTrue ct (compEnvC scope cl C env) (eval ct (compEnvC scope cl C env))) (fun ok s' => if ok = true then
        wpAny (model prog w) A (eval elt (compEnvC scope cl C env)) (TEnd h₀ L m { s with heap := h, toks := tk } ((I1, oI1) :: (I0, oI0) :: (C, oC') :: (D, LCg.lst ys') :: news) (fun y => Ji (j + 1) (ys' ++ [y]))) E' s'
        else TEnd h₀ L m { s with heap := h, toks := tk } ((I1, oI1) :: (I0, oI0) :: (C, oC') :: (D, LCg.lst ys') :: news) (fun _ => Ji (j + 1) ys') Value.none s') E' { s with heap := h, toks := tk }) ∧
    (∀ ys', Ji n ys' → Jn ys')

theorem block_two {ct elt i0 i1 : PySem.Expr} {x0 x1 : Str} {p0 p1 : Pos} {scope : Scope} {cl : List (Str × Addr)} {pos : Pos} {s₂ : Shared} {I : Addr} {fp : List Addr} {n : Nat} {P : Nat → Value → Prop} {St : Nat → Heap → Prop} {news : List (Addr × Obj)}
    {RR : Value → Addr → Result → Shared → Prop} (Jo : Nat → List Value → Prop) (Ji : Nat → Nat → List Value → Prop) (hJs : ∀ i j ys, Ji i j ys → ys.length ≤ sizeLine)
    (W : Walks prog w A I fp [I] n P St) (hIo : ∀ i h, St i h → ∃ o, h.get? I = some o) (hSt : StOk h₀ L I news St)
    (hcell : ∀ y ∈ scope.names, y.2 ≠ .cell) (hkind : scope.kind = .function) (hx0 : scope.names.lookup x0 = some .local) (hx1 : scope.names.lookup x1 = some .local) (hx01 : x0 ≠ x1) (hst : St 0 s₂.heap) (hfp : ∀ b ∈ fp, b < s₂.heap.objs.size)
    (F : Fr h₀ L s₂.heap m) (N : News h₀ L s₂.heap news) (hIL : L ≠ I) (hI₀ : h₀.get? I = none) (off : ∀ p ∈ news, p.1 ≠ I) (hs1 : ∀ C x, foldedSetIterable i1 (compEnvC scope cl C env) x = pure x)
    (h0 : Jo 0 [])
    (inner : ∀ i v C D ys oI oC m₂ h tk (E' : Value → Shared → Prop), i < n → P i v → Jo i ys → LCg.NsObj oC m₂ → m₂ x0 = some v → Fr h₀ L h m → News h₀ L h ((I, oI) :: (C, oC) :: (D, LCg.lst ys) :: news) → LCg.Off3 I C D news → ((@Ne Nat I C) ∧ (@Ne Nat I D) ∧ (@Ne Nat C D)) →
      wpAny (model prog w) A (eval i1 (compEnvC scope cl C env)) (fun xv s' => Hold (wpAny (model prog w) A (pyIter xv) (InnerAt prog w A h₀ L m env ct elt x0 x1 scope cl { s₂ with heap := h, toks := tk } news I C D oI oC v ys (Ji i) (Jo (i + 1))) E' s')) E' { s₂ with heap := h, toks := tk })
    (hRR : ∀ D C h tk m' ys, Fr h₀ L h m → News h₀ L h ((D, LCg.lst ys) :: news) → LCg.Off1 D news → h.Ns C m' → h₀.get? C = none → C ≠ L → C ≠ D → (∀ p ∈ news, p.1 ≠ C) → Jo n ys → RR (.ref D) C (.ok .next) { s₂ with heap := h, toks := tk }) :
    wpAny (model prog w) A (newList []) (fun acc s₃ => wpAny (model prog w) A (newFunctionEnv scope env.globals cl [] env.qual none .none (some env)) (fun cenv s₄ =>
      codeAny (model prog w) A (.compStart (twoE elt (.Name x0 p0) i0 (.Name x1 p1) i1 [ct] scope pos) 0 (.ref I) acc { cenv with scope := relabel scope env }) (RR acc cenv.locals) s₄) E s₃) E s₂ := by
  refine wpAny_newObj_type (wpAny_newFunctionEnv hcell (by intro y hy; simp at hy) (fun h₁ hns₁ hsb₁ => ?_) hkind)
  dsimp only at hns₁ hsb₁ ⊢
  generalize hH2 : s₂.heap.push { cls := .type "list", dict := none, data := .seq ([] : List Value).toArray } = H2 at hns₁ hsb₁ ⊢
  have hC : H2.objs.size = s₂.heap.objs.size + 1 := by rw [← hH2, Heap.size_push]
  have hDC : s₂.heap.objs.size ≠ H2.objs.size := by rw [hC]; exact Nat.ne_of_lt (Nat.lt_succ_self _)
  have below : ∀ b, b < s₂.heap.objs.size → b ≠ H2.objs.size ∧ b ≠ s₂.heap.objs.size := fun b hb => ⟨by rw [hC]; exact Nat.ne_of_lt (Nat.lt_succ_of_lt hb), Nat.ne_of_lt hb⟩
  have hDf : s₂.heap.objs.size ∉ fp := fun hm => Nat.lt_irrefl _ (hfp _ hm)
  have hCf : H2.objs.size ∉ fp := fun hm => by have := hfp _ hm; rw [hC] at this; exact Nat.lt_irrefl _ (Nat.lt_of_succ_lt this)
  have hIf : I ∈ fp := W.sub I (List.mem_singleton.mpr rfl)
  have hIlt : I < s₂.heap.objs.size := hfp I hIf
  have old : ∀ b o, s₂.heap.get? b = some o → h₁.get? b = some o := fun b o e => hsb₁.extBut b o (below b (Heap.lt_size e)).1 (Heap.get?_push_of_some _ (hH2 ▸ Heap.get?_push_of_some _ e))
  have hacc : h₁.get? s₂.heap.objs.size = some (LCg.lst []) := hsb₁.extBut _ _ hDC (Heap.get?_push_of_some _ (hH2 ▸ Heap.get?_push_size _ rfl))
  have hst₁ : St 0 h₁ := W.frame _ _ _ hst fun b _ o e => old b o e
  have fresh₀ : ∀ a, s₂.heap.objs.size ≤ a → h₀.get? a = none := fun a ha => none_ge F ha
  have hD₀ : h₀.get? s₂.heap.objs.size = none := fresh₀ _ (Nat.le_refl _)
  have hC₀ : h₀.get? H2.objs.size = none := fresh₀ _ (by rw [hC]; exact Nat.le_succ _)
  have hLlt : L < s₂.heap.objs.size := F.ns.lt
  have hDL : s₂.heap.objs.size ≠ L := Ne.symm (below L hLlt).2
  have hCL : H2.objs.size ≠ L := Ne.symm (below L hLlt).1
  have hCI : I ≠ H2.objs.size := (below I hIlt).1
  have hDI : I ≠ s₂.heap.objs.size := (below I hIlt).2
  have off₀ : LCg.Off3 I H2.objs.size s₂.heap.objs.size news := LCg.Off3.of fun p hp => ⟨off p hp, (below _ (Heap.lt_size (N p hp).1)).1, (below _ (Heap.lt_size (N p hp).1)).2⟩
  have off3 := off₀.mem
  have hkp : ((relabel scope env).kind == .class || ((relabel scope env).kind == .module && H2.objs.size != env.globals)) = false := by simp [relabel, hkind]
  have loop : ∀ s₃ : Shared, s₃ = { s₂ with heap := h₁, toks := s₂.toks + ([] : List (Str × Value)).length } →
      codeAny (model prog w) A (.compLoop (twoE elt (.Name x0 p0) i0 (.Name x1 p1) i1 [ct] scope pos) 0 (.ref I) (.ref s₂.heap.objs.size) (compEnvC scope cl H2.objs.size env))
        (RR (.ref s₂.heap.objs.size) H2.objs.size) s₃ := by
    rintro s₃ rfl
    refine codeAny_two0
      (fun k s' => ∃ h' tk i ys m', s' = { s₂ with heap := h', toks := tk } ∧ i ≤ n ∧ k = n + 1 - i ∧ Jo i ys ∧ St i h' ∧ Fr h₀ L h' m ∧ h'.Ns H2.objs.size m' ∧ News h₀ L h' ((s₂.heap.objs.size, LCg.lst ys) :: news)) ?_ (n + 1)
      ⟨h₁, _, 0, [], _, rfl, Nat.zero_le _, rfl, h0, hst₁, F.keeps old, hns₁, fun p hp => ?_⟩ (by intro _; rfl) (hs1 _)
    · intro k s' hq0
      refine ex5 hq0 fun h' tk i ys m' hq => ?_
      have qb0 := hq.1
      have hi := hq.2.1
      have qb2 := hq.2.2.1
      have hJ := hq.2.2.2.1
      have hst' := hq.2.2.2.2.1
      have F' := hq.2.2.2.2.2.1
      have hn' := hq.2.2.2.2.2.2.1
      have N' := hq.2.2.2.2.2.2.2
      clear hq hq0
      subst qb0
      subst qb2
      by_cases hlt : i < n
      · refine W.item i _ _ _ hlt hst' fun v h₂ tk₂ hPv hst₂ hk₂ => ?_
        refine wpAny_assign_Name (wpAny_storeName_local (lookup_relabel_local hx0) (hn'.at' fun o e => hk₂ _ o (by simpa using Ne.symm hCI) e) (fun h₃ hn₃ hs₃ => ?_) hkp)
        have hst₃ : St (i + 1) h₃ := W.frame _ _ _ hst₂ fun b hb o e => hs₃.extBut b o (fun q => hCf (by have q' : b = H2.objs.size := q; rw [← q']; exact hb)) e
        obtain ⟨oI, heI⟩ := hIo _ _ hst₃
        obtain ⟨oC, heC, hoC⟩ := LCg.ns_obj hn₃
        have F₃ : Fr h₀ L h₃ m := (LCg.fr_but F' hk₂ hIL hI₀).change hs₃ hCL hC₀
        have N₂ : News h₀ L h₂ ((s₂.heap.objs.size, LCg.lst ys) :: news) := LCg.news_but N' hk₂ fun p hp => by
          rcases List.mem_cons.mp hp with rfl | hp
          · exact Ne.symm hDI
          · exact (off3 p hp).1
        have N₃ : News h₀ L h₃ ((I, oI) :: (H2.objs.size, oC) :: (s₂.heap.objs.size, LCg.lst ys) :: news) := fun p hp => by
          rcases List.mem_cons.mp hp with rfl | hp
          · exact ⟨heI, Ne.symm hIL, hI₀⟩
          · rcases List.mem_cons.mp hp with rfl | hp
            · exact ⟨heC, hCL, hC₀⟩
            · have z := N₂ p hp
              refine ⟨hs₃.extBut _ _ ?_ z.1, z.2⟩
              rcases List.mem_cons.mp hp with rfl | hp
              · exact hDC
              · exact (off3 p hp).2.1
        refine wpAny_mono (inner i v H2.objs.size s₂.heap.objs.size ys oI oC _ h₃ _ NoE hlt hPv hJ hoC (by simp) F₃ N₃ off₀ ⟨hCI, hDI, Ne.symm hDC⟩) (fun xv s₄ h₄ => wpAny_mono h₄ (fun it s₅ h₅ => ?_) fun _ _ e => e) fun _ _ e => e
        refine ex7 h₅ fun I1 fp1 n1 P1 St1 h₅' tk₅ hq => ?_
        have qb0 := hq.1
        have qb1 := hq.2.1
        have W1 := hq.2.2.1
        have hI1o := hq.2.2.2.1
        have hSt1 := hq.2.2.2.2.1
        have hst1 := hq.2.2.2.2.2.1
        have hfp1 := hq.2.2.2.2.2.2.1
        have hI1L := hq.2.2.2.2.2.2.2.1
        have hI1₀ := hq.2.2.2.2.2.2.2.2.1
        have off1 := hq.2.2.2.2.2.2.2.2.2.1
        have F₅ := hq.2.2.2.2.2.2.2.2.2.2.1
        have N₅ := hq.2.2.2.2.2.2.2.2.2.2.2.1
        have hJ1 := hq.2.2.2.2.2.2.2.2.2.2.2.2.1
        have turn1 := hq.2.2.2.2.2.2.2.2.2.2.2.2.2.1
        have end1 := hq.2.2.2.2.2.2.2.2.2.2.2.2.2.2
        clear hq h₅
        subst qb0
        subst qb1
        have hI1C : I1 ≠ H2.objs.size := Ne.symm (off1 (H2.objs.size, oC) (by simp))
        have hI1D : I1 ≠ s₂.heap.objs.size := Ne.symm (off1 (s₂.heap.objs.size, LCg.lst ys) (by simp))
        have hI1I : I1 ≠ I := Ne.symm (off1 (I, oI) (by simp))
        have hn₅ : h₅'.Ns H2.objs.size _ := hoC.ns (N₅ _ (.tail _ (.head _))).1
        have loop1 : codeAny (model prog w) A (.compLoop (twoE elt (.Name x0 p0) i0 (.Name x1 p1) i1 [ct] scope pos) 1 (.ref I1) (.ref s₂.heap.objs.size) (compEnvC scope cl H2.objs.size env))
            (fun r s₅ => r = .ok .next ∧ ∃ m', m' < n + 1 - i ∧ ∃ h' tk i ys m'', s₅ = { s₂ with heap := h', toks := tk } ∧ i ≤ n ∧ m' = n + 1 - i ∧ Jo i ys ∧ St i h' ∧ Fr h₀ L h' m ∧ h'.Ns H2.objs.size m'' ∧ News h₀ L h' ((s₂.heap.objs.size, LCg.lst ys) :: news))
            { s₂ with heap := h₅', toks := tk₅ } := by
          refine codeAny_two1
            (fun k s' => ∃ h' tk j ys' oC' m₃, s' = { s₂ with heap := h', toks := tk } ∧ j ≤ n1 ∧ k = n1 + 1 - j ∧ Ji i j ys' ∧ St1 j h' ∧ Fr h₀ L h' m ∧ LCg.NsObj oC' m₃ ∧ m₃ x0 = some v ∧ News h₀ L h' ((I, oI) :: (H2.objs.size, oC') :: (s₂.heap.objs.size, LCg.lst ys') :: news)) ?_ (n1 + 1)
            ⟨h₅', _, 0, ys, oC, _, rfl, Nat.zero_le _, rfl, hJ1, hst1, F₅, hoC, by simp, N₅⟩ (by intro _; rfl)
          intro k s' hq0
          refine ex6 hq0 fun g tk j ys' oC' m₃ hq => ?_
          have qb0 := hq.1
          have hj := hq.2.1
          have qb2 := hq.2.2.1
          have hJ' := hq.2.2.2.1
          have hst' := hq.2.2.2.2.1
          have F' := hq.2.2.2.2.2.1
          have hoC' := hq.2.2.2.2.2.2.1
          have hm0 := hq.2.2.2.2.2.2.2.1
          have N' := hq.2.2.2.2.2.2.2.2
          clear hq hq0
          subst qb0
          subst qb2
          have off1' : ∀ p ∈ (I, oI) :: (H2.objs.size, oC') :: (s₂.heap.objs.size, LCg.lst ys') :: news, p.1 ≠ I1 := fun p hp => by
            simp only [List.mem_cons] at hp
            rcases hp with rfl | rfl | rfl | hp
            · exact Ne.symm hI1I
            · exact Ne.symm hI1C
            · exact Ne.symm hI1D
            · exact off1 p (by simp [hp])
          by_cases hlt1 : j < n1
          · refine W1.item j _ _ _ hlt1 hst' fun v1 g₂ tk₂ hPv1 hst₂ hk₂ => ?_
            have N₂ := LCg.news_but N' hk₂ off1'
            refine wpAny_assign_Name (wpAny_storeName_local (lookup_relabel_local hx1) (hoC'.ns (N₂ _ (.tail _ (.head _))).1) (fun g₃ hn₃ hs₃ => ?_) hkp)
            replace hs₃ : Heap.SameBut H2.objs.size g₂ g₃ := hs₃
            refine wpAny_tests_one ?_
            have hst₃ : St1 (j + 1) g₃ := W1.frame _ _ _ hst₂ fun b hb o e => hs₃.extBut b o (hfp1 b hb).1 e
            obtain ⟨oI1, heI1⟩ := hI1o _ _ hst₃
            obtain ⟨oC3, heC3, hoC3⟩ := LCg.ns_obj hn₃
            have F₃ : Fr h₀ L g₃ m := (LCg.fr_but F' hk₂ (Ne.symm hI1L) hI1₀).change hs₃ hCL hC₀
            have N₃ : News h₀ L g₃ ((I1, oI1) :: (I, oI) :: (H2.objs.size, oC3) :: (s₂.heap.objs.size, LCg.lst ys') :: news) := fun p hp => by
              rcases List.mem_cons.mp hp with rfl | hp
              · exact ⟨heI1, hI1L, hI1₀⟩
              rcases List.mem_cons.mp hp with rfl | hp
              · exact ⟨hs₃.extBut _ _ hCI (N₂ _ (.head _)).1, (N₂ _ (.head _)).2⟩
              rcases List.mem_cons.mp hp with rfl | hp
              · exact ⟨heC3, hCL, hC₀⟩
              · have z := N₂ p (.tail _ (.tail _ hp))
                refine ⟨hs₃.extBut _ _ ?_ z.1, z.2⟩
                rcases List.mem_cons.mp hp with rfl | hp
                · exact hDC
                · exact (off3 p hp).2.1
            refine wpAny_mono (turn1 j v1 ys' oI1 oC3 _ g₃ _ NoE hlt1 hPv1 hJ' hoC3 (by simp) (by simp [hx01, hm0]) F₃ N₃) (fun ok s₆ h₆ => ?_) fun _ _ e => e
            cases ok with
            | true =>
              simp only [if_true] at h₆ ⊢
              refine wpAny_mono h₆ (fun y s₇ h₇ => ?_) fun _ _ e => e
              obtain ⟨g₄, tk₄, rfl, F₄, N₄, hJ4⟩ := h₇
              have zI1 := (N₄ (I1, oI1) (.head _)).1
              have zD := (N₄ (s₂.heap.objs.size, LCg.lst ys') (by simp)).1
              have hst₄ : St1 (j + 1) g₄ := hSt1 _ _ _ _ hst₃ heI1 zI1 F₄.keep fun p hp => N₄ p (by simp only [List.mem_cons] at hp ⊢; rcases hp with h | h <;> simp [h])
              refine append_at (hsz := by show ys'.toArray.size ≤ sizeLine; rw [List.size_toArray]; exact hJs _ _ _ hJ') zD fun g₅ hs₅ hD₅ => ?_
              refine ⟨n1 + 1 - (j + 1), dec_lt (by assumption), g₅, tk₄, j + 1, ys' ++ [y], oC3, _, rfl, hlt1, rfl, hJ4, W1.frame _ _ _ hst₄ fun b hb o e => hs₅.extBut b o (hfp1 b hb).2 e, F₄.change hs₅ hDL hD₀, hoC3, by simp [hx01, hm0], fun p hp => ?_⟩
              rcases List.mem_cons.mp hp with rfl | hp
              · exact ⟨hs₅.extBut _ _ hDI (N₄ _ (.tail _ (.head _))).1, (N₄ (I, oI) (.tail _ (.head _))).2⟩
              rcases List.mem_cons.mp hp with rfl | hp
              · exact ⟨hs₅.extBut _ _ (Ne.symm hDC) (N₄ _ (.tail _ (.tail _ (.head _)))).1, hCL, hC₀⟩
              rcases List.mem_cons.mp hp with rfl | hp
              · exact ⟨hD₅.trans (congrArg some (LCg.lst_snoc ys' y)), hDL, hD₀⟩
              · exact ⟨hs₅.extBut _ _ (off3 p hp).2.2 (N₄ p (by simp [hp])).1, (N₄ p (by simp [hp])).2⟩
            | false =>
              simp only [Bool.false_eq_true, if_false] at h₆ ⊢
              obtain ⟨g₄, tk₄, rfl, F₄, N₄, hJ4⟩ := h₆
              have zI1 := (N₄ (I1, oI1) (.head _)).1
              have hst₄ : St1 (j + 1) g₄ := hSt1 _ _ _ _ hst₃ heI1 zI1 F₄.keep fun p hp => N₄ p (by simp only [List.mem_cons] at hp ⊢; rcases hp with h | h <;> simp [h])
              exact ⟨n1 + 1 - (j + 1), dec_lt (by assumption), g₄, tk₄, j + 1, ys', oC3, _, rfl, hlt1, rfl, hJ4, hst₄, F₄, hoC3, by simp [hx01, hm0], fun p hp => N₄ p (.tail _ hp)⟩
          · obtain rfl : j = n1 := Nat.le_antisymm hj (Nat.not_lt.mp hlt1)
            refine W1.done _ _ _ hst' fun g₂ tk₂ hk₂ => ?_
            have N₂ := LCg.news_but N' hk₂ off1'
            have F₂ := LCg.fr_but F' hk₂ (Ne.symm hI1L) hI1₀
            refine ⟨rfl, n + 1 - (i + 1), dec_lt (by assumption), g₂, tk₂, i + 1, ys', _, rfl, hlt, rfl, end1 ys' hJ', ?_, F₂, hoC'.ns (N₂ _ (.tail _ (.head _))).1, fun p hp => N₂ p (.tail _ (.tail _ hp))⟩
            exact hSt _ _ _ _ hst₃ heI (N₂ _ (.head _)).1 F₂.keep fun p hp => N₂ p (.tail _ (.tail _ (.tail _ hp)))
        exact codeAny_two_start (d := 1) rfl rfl loop1 (W1.self 0 _ _ _ hst1 loop1)
      · obtain rfl : i = n := Nat.le_antisymm hi (Nat.not_lt.mp hlt)
        refine W.done _ _ _ hst' fun h₂ tk₂ hk₂ => ?_
        exact hRR _ _ h₂ tk₂ _ ys (LCg.fr_but F' hk₂ hIL hI₀) (LCg.news_but N' hk₂ fun p hp => by
          rcases List.mem_cons.mp hp with rfl | hp
          · exact Ne.symm hDI
          · exact (off3 p hp).1) off₀.one (hn'.at' fun o e => hk₂ _ o (by simpa using Ne.symm hCI) e) hC₀ hCL (Ne.symm hDC) (fun p hp => (off3 p hp).2.1) hJ
    · rcases List.mem_cons.mp hp with rfl | hp
      · exact ⟨hacc, hDL, hD₀⟩
      · exact ⟨old _ _ (N p hp).1, (N p hp).2⟩
  exact codeAny_two_start (d := 0) rfl rfl (loop _ rfl) (W.self 0 _ _ _ hst₁ (loop _ rfl))
/-- the outer source stands -/
noncomputable def TwoAt (prog : Program) (w : World) (A : Around) (h₀ : Heap) (m : Str → Option Value) (env : Env) (ct elt i1 : PySem.Expr) (x0 x1 : Str) (scope : Scope) (cl : List (Str × Addr)) (Q : Value → Shared → Prop) (it : Value) (s₂ : Shared) : Prop :=
  ∃ (I : Addr) (fp : List Addr) (n : Nat) (P : Nat → Value → Prop) (St : Nat → Heap → Prop) (news : List (Addr × Obj)) (Jo : Nat → List Value → Prop) (Ji : Nat → Nat → List Value → Prop), it = .ref I ∧ (∀ i j ys, Ji i j ys → ys.length ≤ sizeLine) ∧
    Walks prog w A I fp [I] n P St ∧ (∀ i h, St i h → ∃ o, h.get? I = some o) ∧ StOk h₀ env.locals I news St ∧ St 0 s₂.heap ∧ (∀ b ∈ fp, b < s₂.heap.objs.size) ∧ Fr h₀ env.locals s₂.heap m ∧ News h₀ env.locals s₂.heap news ∧ env.locals ≠ I ∧ h₀.get? I = none ∧ (∀ p ∈ news, p.1 ≠ I) ∧ Jo 0 [] ∧
    (∀ i v C D ys oI oC m₂ h tk (E' : Value → Shared → Prop), i < n → P i v → Jo i ys → LCg.NsObj oC m₂ → m₂ x0 = some v → Fr h₀ env.locals h m → News h₀ env.locals h ((I, oI) :: (C, oC) :: (D, LCg.lst ys) :: news) → LCg.Off3 I C D news → ((@Ne Nat I C) ∧ (@Ne Nat I D) ∧ (@Ne Nat C D)) →
      wpAny (model prog w) A (eval i1 (compEnvC scope cl C env)) (fun xv s' => Hold (wpAny (model prog w) A (pyIter xv) (InnerAt prog w A h₀ env.locals m env ct elt x0 x1 scope cl { s₂ with heap := h, toks := tk } news I C D oI oC v ys (Ji i) (Jo (i + 1))) E' s')) E' { s₂ with heap := h, toks := tk }) ∧
    (∀ D h tk ys, Fr h₀ env.locals h m → News h₀ env.locals h ((D, LCg.lst ys) :: news) → LCg.Off1 D news → Jo n ys → Q (.ref D) { s₂ with heap := h, toks := tk })
variable {s : Shared}
theorem ListComp_two {ct elt i0 i1 : PySem.Expr} {x0 x1 : Str} {p0 p1 : Pos} {scope : Scope} {cl : List (Str × Addr)} {pos : Pos} {Q : Value → Shared → Prop} (_F : Fr h₀ env.locals s.heap m := by k_asm)
    (hclos : closureFor scope env = pure cl := by with_unfolding_all rfl) (hcell : ∀ y ∈ scope.names, y.2 ≠ .cell := by decide) (hkind : scope.kind = .function := by rfl) (hnames : ∀ y ∈ scope.names, y.2 = .local → scope.names.lookup y.1 = some .local := by decide)
    (hx0 : scope.names.lookup x0 = some .local := by rfl) (hx1 : scope.names.lookup x1 = some .local := by rfl) (hx01 : x0 ≠ x1 := by decide)
    (h : wpAny (model prog w) A (eval i0 env) (fun xv s₁ => Hold (wpAny (model prog w) A (pyIter xv) (TwoAt prog w A h₀ m env ct elt i1 x0 x1 scope cl Q) E s₁)) E s)
    (hs : ∀ x, foldedSetIterable i0 env x = pure x := by intro _; rfl) (hs1 : ∀ C x, foldedSetIterable i1 (compEnvC scope cl C env) x = pure x := by intro _ _; rfl) :
    wpAny (model prog w) A (eval (.ListComp elt [⟨.Name x0 p0, i0, [], 0⟩, ⟨.Name x1 p1, i1, [ct], 0⟩] scope pos) env) Q E s := by
  rw [eval_ListComp]
  refine wpAny_comprehension_free (use := none) rfl hs hclos hkind hnames (wpAny_mono h (fun xv s₁ h₁ => wpAny_mono h₁ (fun it s₂ h₂ => ?_) fun _ _ e => e) fun _ _ e => e)
  refine ex8 h₂ fun I fp n P St news Jo Ji hq => ?_
  have qb0 := hq.1
  have hJs := hq.2.1
  have W := hq.2.2.1
  have hIo := hq.2.2.2.1
  have hSt := hq.2.2.2.2.1
  have hst := hq.2.2.2.2.2.1
  have hfp := hq.2.2.2.2.2.2.1
  have F := hq.2.2.2.2.2.2.2.1
  have N := hq.2.2.2.2.2.2.2.2.1
  have hIL := hq.2.2.2.2.2.2.2.2.2.1
  have hI₀ := hq.2.2.2.2.2.2.2.2.2.2.1
  have off := hq.2.2.2.2.2.2.2.2.2.2.2.1
  have h0 := hq.2.2.2.2.2.2.2.2.2.2.2.2.1
  have inner := hq.2.2.2.2.2.2.2.2.2.2.2.2.2.1
  have fin := hq.2.2.2.2.2.2.2.2.2.2.2.2.2.2
  clear hq h₂
  subst qb0
  refine block_two (RR := fun acc C => compPost (model prog w) A E none Q acc C) Jo Ji hJs W hIo hSt hcell hkind hx0 hx1 hx01 hst hfp F N hIL hI₀ off hs1 h0 inner ?_
  intro D C h' tk m' ys F' N' o1 hn hC₀ hCL hCD offC hj
  refine ⟨m', hn, fun h'' hs'' => fin D h'' _ ys (F'.change hs'' hCL hC₀) (fun p hp => ?_) o1 hj⟩
  refine ⟨hs''.extBut _ _ ?_ (N' p hp).1, (N' p hp).2⟩
  rcases List.mem_cons.mp hp with rfl | hp
  · exact Ne.symm hCD
  · exact offC p hp
theorem iter_listTwo {ct elt i1 : PySem.Expr} {x0 x1 : Str} {scope : Scope} {cl : List (Str × Addr)} {Q : Value → Shared → Prop} {ax : Addr} {its : Array Value} {news : List (Addr × Obj)} (Jo : Nat → List Value → Prop) (Ji : Nat → Nat → List Value → Prop) (hJs : ∀ i j ys, Ji i j ys → ys.length ≤ sizeLine)
    (hh : A.handled = none) (hl : LCg.SrcAt h₀ ax its news) (F : Fr h₀ env.locals s.heap m) (N : News h₀ env.locals s.heap news) (h0 : Jo 0 [])
    (inner : ∀ i v I C D ys oI oC m₂ (s₂ : Shared) (E' : Value → Shared → Prop), (∃ h tk, s₂ = { s with heap := h, toks := tk }) → its[i]? = some v → Jo i ys → LCg.NsObj oC m₂ → m₂ x0 = some v → Fr h₀ env.locals s₂.heap m → News h₀ env.locals s₂.heap ((I, oI) :: (C, oC) :: (D, LCg.lst ys) :: news) → LCg.Off3 I C D news → ((@Ne Nat I C) ∧ (@Ne Nat I D) ∧ (@Ne Nat C D)) → ax ≠ C → ax ≠ D →
      wpAny (model prog w) A (eval i1 (compEnvC scope cl C env)) (fun xv s' => Hold (wpAny (model prog w) A (pyIter xv) (InnerAt prog w A h₀ env.locals m env ct elt x0 x1 scope cl s₂ news I C D oI oC v ys (Ji i) (Jo (i + 1))) E' s')) E' s₂)
    (fin : ∀ D h tk ys, Fr h₀ env.locals h m → News h₀ env.locals h ((D, LCg.lst ys) :: news) → LCg.Off1 D news → Jo its.size ys → Q (.ref D) { s with heap := h, toks := tk }) :
    wpAny (model prog w) A (pyIter (.ref ax)) (TwoAt prog w A h₀ m env ct elt i1 x0 x1 scope cl Q) E s := by
  have hls : s.heap.IsList ax its := hl.list F.keep N
  have hlt : ax < s.heap.objs.size := by obtain ⟨_, e, _⟩ := hls; exact Heap.lt_size e
  refine wpAny_pyIter_list hls ?_
  refine ⟨s.heap.objs.size, _, its.size, _, _, news, Jo, Ji, rfl, hJs, Walks.list hh _ _ (Nat.ne_of_lt hlt) its, fun i h st => ?_, ?_, ⟨⟨_, Heap.get?_push_size _ rfl, rfl, rfl⟩, hls.push _⟩, (fun b hb => ?_), F.keeps fun _ _ e => Heap.get?_push_of_some _ e, N.grown fun _ _ e => Heap.get?_push_of_some _ e, Nat.ne_of_lt F.ns.lt, none_ge F (Nat.le_refl _), (fun p hp => Nat.ne_of_lt (Heap.lt_size (N p hp).1)), h0, ?_, fin⟩
  · obtain ⟨⟨o, e, _⟩, _⟩ := st; exact ⟨o, e⟩
  · intro i h h' o st e e' k N
    exact LCg.list_st (h₀ := h₀) i h h' o _ st e e' k N hl
  · show b < (s.heap.push _).objs.size
    rw [Heap.size_push]
    rcases List.mem_cons.mp hb with rfl | hb
    · exact Nat.lt_succ_self _
    · rw [List.mem_singleton.mp hb]; exact Nat.lt_succ_of_lt hlt
  · intro i v C D ys oI oC m₂ h tk E' hi hP hJ hC hx F' N' off ne
    have hne : ∀ (b : Addr) o, (b, o) ∈ (s.heap.objs.size, oI) :: (C, oC) :: (D, LCg.lst ys) :: news → (b = C ∨ b = D) → h.IsList ax its → True := fun _ _ _ _ _ => trivial
    have hlist := hl.list F'.keep fun p hp => N' p (.tail _ (.tail _ (.tail _ hp)))
    obtain ⟨ol, hol, hcl, _⟩ := hlist
    have hCd : ax ≠ C := fun e => by
      have h1 := (N' (C, oC) (.tail _ (.head _))).1
      have h2 : h.get? C = some oC := h1
      rw [← e, hol] at h2
      obtain ⟨es, ep, hd, _⟩ := hC
      cases h2
      rename_i hseq
      obtain ⟨n', hs⟩ := hseq
      rw [hd] at hs; cases hs
    have hDd : ax ≠ D := fun e => by
      rcases hl with ⟨o', e', _⟩ | ⟨o', hm, _⟩
      · have := (N' (D, LCg.lst ys) (.tail _ (.tail _ (.head _)))).2.2
        rw [show D = ax from e.symm, e'] at this; cases this
      · exact (off.mem _ hm).2.2 e
    exact inner i v _ C D ys oI oC m₂ _ E' ⟨_, _, rfl⟩ hP hJ hC hx F' N' off ne hCd hDd
theorem inner_list {ct elt : PySem.Expr} {x0 x1 : Str} {scope : Scope} {cl : List (Str × Addr)} {ax : Addr} {its : Array Value} {news : List (Addr × Obj)} {s' : Shared} {I0 C D : Addr} {oI0 oC : Obj} {v : Value} {ys : List Value} {Ji : Nat → List Value → Prop} {Jn : List Value → Prop}
    (hs' : ∃ h tk, s' = { s with heap := h, toks := tk }) (hh : A.handled = none) (hl : LCg.SrcAt h₀ ax its news) (F : Fr h₀ L s'.heap m) (N : News h₀ L s'.heap ((I0, oI0) :: (C, oC) :: (D, LCg.lst ys) :: news)) (hC : ax ≠ C) (hD : ax ≠ D) (h0 : Ji 0 ys)
    (turn : ∀ I1 j v1 ys' oI1 oC' m₃ h tk (E' : Value → Shared → Prop), its[j]? = some v1 → Ji j ys' → LCg.NsObj oC' m₃ → m₃ x1 = some v1 → m₃ x0 = some v → Fr h₀ L h m → News h₀ L h ((I1, oI1) :: (I0, oI0) :: (C, oC') :: (D, LCg.lst ys') :: news) →
      wpAny (model prog w) A (isTrue ct (compEnvC scope cl C env) (eval ct (compEnvC scope cl C env))) (fun ok s' => if ok = true then
        wpAny (model prog w) A (eval elt (compEnvC scope cl C env)) (TEnd h₀ L m { s with heap := h, toks := tk } ((I1, oI1) :: (I0, oI0) :: (C, oC') :: (D, LCg.lst ys') :: news) (fun y => Ji (j + 1) (ys' ++ [y]))) E' s'
        else TEnd h₀ L m { s with heap := h, toks := tk } ((I1, oI1) :: (I0, oI0) :: (C, oC') :: (D, LCg.lst ys') :: news) (fun _ => Ji (j + 1) ys') Value.none s') E' { s with heap := h, toks := tk })
    (fin : ∀ ys', Ji its.size ys' → Jn ys') : wpAny (model prog w) A (pyIter (.ref ax)) (InnerAt prog w A h₀ L m env ct elt x0 x1 scope cl s news I0 C D oI0 oC v ys Ji Jn) E s' := by
  obtain ⟨h, tk, rfl⟩ := hs'
  have Nn : News h₀ L h news := fun p hp => N p (.tail _ (.tail _ (.tail _ hp)))
  have hls : h.IsList ax its := hl.list F.keep Nn
  have hlt : ax < h.objs.size := by obtain ⟨_, e, _⟩ := hls; exact Heap.lt_size e
  refine wpAny_pyIter_list hls ?_
  have hlow : ∀ p ∈ (I0, oI0) :: (C, oC) :: (D, LCg.lst ys) :: news, p.1 ≠ h.objs.size := fun p hp => Nat.ne_of_lt (Heap.lt_size (N p hp).1)
  refine ⟨h.objs.size, _, its.size, _, _, _, tk, rfl, rfl, Walks.list hh _ _ (Nat.ne_of_lt hlt) its, fun i g st => ?_, ?_, ⟨⟨_, Heap.get?_push_size _ rfl, rfl, rfl⟩, hls.push _⟩, (fun b hb => ?_), Nat.ne_of_gt F.ns.lt, none_ge F (Nat.le_refl _), hlow, F.push _, N.grown fun _ _ e => Heap.get?_push_of_some _ e, h0, ?_, fin⟩
  · obtain ⟨⟨o, e, _⟩, _⟩ := st; exact ⟨o, e⟩
  · intro i g g' o st e e' k N
    exact LCg.list_st (h₀ := h₀) i g g' o _ st e e' k (fun p hp => N p (.tail _ hp)) hl
  · rcases List.mem_cons.mp hb with rfl | hb
    · exact ⟨Ne.symm (hlow (C, oC) (by simp)), Ne.symm (hlow (D, LCg.lst ys) (by simp))⟩
    · rw [List.mem_singleton.mp hb]; exact ⟨hC, hD⟩
  · intro j v1 ys' oI1 oC' m₃ g tk' E' hj hv hJ hCC h1 h0' F' N'
    exact turn _ j v1 ys' oI1 oC' m₃ g tk' E' hv hJ hCC h1 h0' F' N'
theorem inner_range {ct elt : PySem.Expr} {x0 x1 : Str} {scope : Scope} {cl : List (Str × Addr)} {r : Addr} {a b : Int} {t u w' : Tok} {n : Nat} {news : List (Addr × Obj)} {s' : Shared} {I0 C D : Addr} {oI0 oC : Obj} {v : Value} {ys : List Value} {Ji : Nat → List Value → Prop} {Jn : List Value → Prop}
    (hs' : ∃ h tk, s' = { s with heap := h, toks := tk }) (hh : A.handled = none) (hr : IsRange s'.heap r a b 1 t u w') (hsm : Builtin.Range.small a b 1 = true) (hn : Builtin.Range.rangeSize a b 1 = ((n : Nat) : Int)) (F : Fr h₀ L s'.heap m) (N : News h₀ L s'.heap ((I0, oI0) :: (C, oC) :: (D, LCg.lst ys) :: news)) (h0 : Ji 0 ys)
    (turn : ∀ I1 j t1 ys' oI1 oC' m₃ h tk (E' : Value → Shared → Prop), j < n → Ji j ys' → LCg.NsObj oC' m₃ → m₃ x1 = some (.int (a + (j : Int)) t1) → m₃ x0 = some v → Fr h₀ L h m → News h₀ L h ((I1, oI1) :: (I0, oI0) :: (C, oC') :: (D, LCg.lst ys') :: news) →
      wpAny (model prog w) A (isTrue ct (compEnvC scope cl C env) (eval ct (compEnvC scope cl C env))) (fun ok s' => if ok = true then
        wpAny (model prog w) A (eval elt (compEnvC scope cl C env)) (TEnd h₀ L m { s with heap := h, toks := tk } ((I1, oI1) :: (I0, oI0) :: (C, oC') :: (D, LCg.lst ys') :: news) (fun y => Ji (j + 1) (ys' ++ [y]))) E' s'
        else TEnd h₀ L m { s with heap := h, toks := tk } ((I1, oI1) :: (I0, oI0) :: (C, oC') :: (D, LCg.lst ys') :: news) (fun _ => Ji (j + 1) ys') Value.none s') E' { s with heap := h, toks := tk })
    (fin : ∀ ys', Ji n ys' → Jn ys') : wpAny (model prog w) A (pyIter (.ref r)) (InnerAt prog w A h₀ L m env ct elt x0 x1 scope cl s news I0 C D oI0 oC v ys Ji Jn) E s' := by
  obtain ⟨h, tk, rfl⟩ := hs'
  refine wpAny_pyIter_range hr hsm ?_
  have hlow : ∀ p ∈ (I0, oI0) :: (C, oC) :: (D, LCg.lst ys) :: news, p.1 ≠ h.objs.size := fun p hp => Nat.ne_of_lt (Heap.lt_size (N p hp).1)
  refine ⟨h.objs.size, _, n, _, _, _, tk, rfl, rfl, LCg.range_walks hh a n, fun i g st => ⟨_, st⟩, ?_, (by show IsRangeIter _ _ _ _ _; rw [hn]; simpa using Heap.get?_push_size _ rfl), (fun b hb => ?_), Nat.ne_of_gt F.ns.lt, none_ge F (Nat.le_refl _), hlow, F.push _, N.grown fun _ _ e => Heap.get?_push_of_some _ e, h0, ?_, fin⟩
  · intro i g g' o st e e' k N
    exact LCg.range_st (h₀ := h₀) i g g' o _ st e e' k N trivial
  · rw [List.mem_singleton.mp hb]
    exact ⟨Ne.symm (hlow (C, oC) (by simp)), Ne.symm (hlow (D, LCg.lst ys) (by simp))⟩
  · rintro j v1 ys' oI1 oC' m₃ g tk' E' hj ⟨t1, rfl⟩ hJ hCC h1 h0' F' N'
    exact turn _ j t1 ys' oI1 oC' m₃ g tk' E' hj hJ hCC h1 h0' F' N'
end
end

/-! LawC -/
section
section
variable {prog : Program} {w : World} {A : Around} {E : Value → Shared → Prop} {s : Shared} {Q : Value → Shared → Prop} {b : Int} {t u : Tok}
theorem pow2_is {n : Nat} (e : b = (n : Int) := by first | assumption | rfl) (hn : n ≤ 64 := by first | assumption | omega) (h : ∀ t', Q (.int (2 ^ n) t') { s with toks := s.toks + 1 }) : wpAny (model prog w) A (binaryOp .Pow (.int 2 t) (.int b u)) Q E s := by
  subst e
  refine pow_int (Int.natCast_nonneg _) ?_ ?_
  · have : Builtin.Int.intBits 2 = 2 := by decide +kernel
    rw [this]; omega
  · rw [Int.toNat_natCast]; exact h _
end
open PyProof.Rows.KTD in
theorem eachL_at {P : Value → Prop} {h : Heap} {k : Int} {x : Str} : ∀ {D : List (Int × KTD.Dat)}, datumAt k D = some (.flat (.str x)) → (∀ t, P (.str x t)) → EachL h k P D
  | [], _, _ => trivial
  | [(y, d)], e, hp => fun q => by
    unfold datumAt at e
    rw [if_pos (by simpa using q)] at e
    cases e
    exact hp
  | (y, d) :: z :: D, e, hp => by
    show (if decide (k = y) = true then Opened h P d else EachL h k P (z :: D))
    unfold datumAt at e
    by_cases q : k = y
    · rw [if_pos (by simpa using q)] at e ⊢
      cases e
      exact hp
    · rw [if_neg (by simpa using q)] at e ⊢
      exact eachL_at e hp
open PyProof.Rows.KTD in
theorem nm_at2 {i : Nat} (hi : i < 10) : datumAt ((2 : Int) ^ i) (asDat [(1, PyData.str (Str.ofString "OPTIMIZED")), (2, PyData.str (Str.ofString "NEWLOCALS")), (4, PyData.str (Str.ofString "VARARGS")), (8, PyData.str (Str.ofString "VARKEYWORDS")), (16, PyData.str (Str.ofString "NESTED")), (32, PyData.str (Str.ofString "GENERATOR")), (64, PyData.str (Str.ofString "NOFREE")), (128, PyData.str (Str.ofString "COROUTINE")), (256, PyData.str (Str.ofString "ITERABLE_COROUTINE")), (512, PyData.str (Str.ofString "ASYNC_GENERATOR"))]) = some (.flat (.str (nmOf i))) := by
  have := nm_at hi
  rw [zero_add_toNat, Int.one_mul] at this
  exact this
open PyProof.Rows.KTD in
theorem nm_in {i : Nat} (hi : i < 10) : inKeys ((2 : Int) ^ i) [((1 : Int), PyData.str (Str.ofString "OPTIMIZED")), (2, PyData.str (Str.ofString "NEWLOCALS")), (4, PyData.str (Str.ofString "VARARGS")), (8, PyData.str (Str.ofString "VARKEYWORDS")), (16, PyData.str (Str.ofString "NESTED")), (32, PyData.str (Str.ofString "GENERATOR")), (64, PyData.str (Str.ofString "NOFREE")), (128, PyData.str (Str.ofString "COROUTINE")), (256, PyData.str (Str.ofString "ITERABLE_COROUTINE")), (512, PyData.str (Str.ofString "ASYNC_GENERATOR"))] = true := by
  have : i = 0 ∨ i = 1 ∨ i = 2 ∨ i = 3 ∨ i = 4 ∨ i = 5 ∨ i = 6 ∨ i = 7 ∨ i = 8 ∨ i = 9 := lt10 (by first | assumption | omega)
  rcases this with rfl | rfl | rfl | rfl | rfl | rfl | rfl | rfl | rfl | rfl <;> rfl
theorem snd_addr {h₀ h : Heap} {L a : Addr} {p : Addr × Obj} {o : Obj} {rest : List (Addr × Obj)} (_ : News h₀ L h (p :: (a, o) :: rest)) : ∃ x, x = a := ⟨a, rfl⟩
theorem fst_addr {h₀ h : Heap} {L a : Addr} {o : Obj} {rest : List (Addr × Obj)} (_ : News h₀ L h ((a, o) :: rest)) : ∃ x, x = a := ⟨a, rfl⟩
theorem dict_nocell {prog : Program} {w : World} {o : Obj} {kvs : List (Str × Value)} (h : o.IsDictOf (strKind prog w) kvs) : ∀ u, o.data ≠ .cell u := by
  obtain ⟨es, ep, hc, hd, hdat, _⟩ := h
  intro u e
  simp_all
theorem paired4 {G : Nat → Value → Prop} {ys : List Value} (h : Paired G (List.range 4) ys) : ∃ a b c d, ys = [a, b, c, d] ∧ G 0 a ∧ G 1 b ∧ G 2 c ∧ G 3 d := by
  have e : List.range 4 = [0, 1, 2, 3] := rfl
  rw [e] at h
  cases h with
  | cons g0 h => cases h with
    | cons g1 h => cases h with
      | cons g2 h => cases h with
        | cons g3 h => cases h with
          | nil => exact ⟨_, _, _, _, rfl, g0, g1, g2, g3⟩
theorem nm_inj {f i j : Nat} (hf : f ≤ 6) (hi : i < 4) (hj : j < 4) (e : nmOf (f + i) = nmOf (f + j)) : i = j := by
  have h : ∀ a b : Fin 10, nmOf a.val = nmOf b.val → a = b := by decide +kernel
  have := h ⟨f + i, by omega⟩ ⟨f + j, by omega⟩ e
  have := congrArg Fin.val this
  simp only at this
  omega
end

/-! LawD -/
section
/-- the words of a choice -/
noncomputable def wordsP (f i : Nat) : List Str := wordsW ((0 + (i : Int)) * 2 ^ f)
theorem wordsP_fits : ∀ (f : Fin 7) (i : Fin 16), (0 ≤ (0 + ((i.val : Nat) : Int)) * 2 ^ f.val ∧ (0 + ((i.val : Nat) : Int)) * 2 ^ f.val < 1024) := by decide +kernel
theorem wordsP_split0 : ∀ i : Fin 16, Txt.split (Txt.join (Str.ofString ", ") (wordsP 0 i.val)) (Str.ofString ", ") = wordsP 0 i.val := by decide +kernel
theorem wordsP_split1 : ∀ i : Fin 16, Txt.split (Txt.join (Str.ofString ", ") (wordsP 1 i.val)) (Str.ofString ", ") = wordsP 1 i.val := by decide +kernel
theorem wordsP_split2 : ∀ i : Fin 16, Txt.split (Txt.join (Str.ofString ", ") (wordsP 2 i.val)) (Str.ofString ", ") = wordsP 2 i.val := by decide +kernel
theorem wordsP_split3 : ∀ i : Fin 16, Txt.split (Txt.join (Str.ofString ", ") (wordsP 3 i.val)) (Str.ofString ", ") = wordsP 3 i.val := by decide +kernel
theorem wordsP_split4 : ∀ i : Fin 16, Txt.split (Txt.join (Str.ofString ", ") (wordsP 4 i.val)) (Str.ofString ", ") = wordsP 4 i.val := by decide +kernel
theorem wordsP_split5 : ∀ i : Fin 16, Txt.split (Txt.join (Str.ofString ", ") (wordsP 5 i.val)) (Str.ofString ", ") = wordsP 5 i.val := by decide +kernel
theorem wordsP_split6 : ∀ i : Fin 16, Txt.split (Txt.join (Str.ofString ", ") (wordsP 6 i.val)) (Str.ofString ", ") = wordsP 6 i.val := by decide +kernel
theorem wordsP_split (f : Fin 7) (i : Fin 16) : Txt.split (Txt.join (Str.ofString ", ") (wordsP f.val i.val)) (Str.ofString ", ") = wordsP f.val i.val := by
  match f with
  | 0 => exact wordsP_split0 i
  | 1 => exact wordsP_split1 i
  | 2 => exact wordsP_split2 i
  | 3 => exact wordsP_split3 i
  | 4 => exact wordsP_split4 i
  | 5 => exact wordsP_split5 i
  | 6 => exact wordsP_split6 i
theorem wordsP_len : ∀ (f : Fin 7) (i : Fin 16), (Txt.join (Str.ofString ", ") (wordsP f.val i.val)).length ≤ 200 ∧ (wordsP f.val i.val).length ≤ 4 := by decide +kernel
noncomputable def rowsF (W : Nat → Nat → Int) (f : Nat) (k : Str) : List (Str × Int) := match (List.range 4).find? (fun r => decide (k = nmOf (f + r))) with
  | some r => rowL (fun i => nmOf (f + i)) (W r) 4
  | none => []
theorem rowsF_at {W : Nat → Nat → Int} {f r : Nat} (hf : f ≤ 6) (hr : r < 4) : rowsF W f (nmOf (f + r)) = rowL (fun i => nmOf (f + i)) (W r) 4 := by
  unfold rowsF
  cases h : (List.range 4).find? (fun r' => decide (nmOf (f + r) = nmOf (f + r'))) with
  | none =>
    have := List.find?_eq_none.mp h r (List.mem_range.mpr hr)
    simp at this
  | some r' =>
    have h1 := List.find?_some h
    have h2 := List.mem_range.mp (List.mem_of_find?_eq_some h)
    have : r = r' := nm_inj hf hr h2 (by simpa using h1)
    subst this
    rfl
theorem rowsF_none {W : Nat → Nat → Int} {f : Nat} {k : Str} (h : ∀ r, r < 4 → k ≠ nmOf (f + r)) : rowsF W f k = [] := by
  unfold rowsF
  cases e : (List.range 4).find? (fun r' => decide (k = nmOf (f + r'))) with
  | none => rfl
  | some r' =>
    have h1 := List.find?_some e
    have h2 := List.mem_range.mp (List.mem_of_find?_eq_some e)
    exact absurd (by simpa using h1) (h r' h2)
theorem rowsF_len (W : Nat → Nat → Int) (f : Nat) (k : Str) : (rowsF W f k).length ≤ 4 := by
  unfold rowsF
  split
  · exact rowL_length _ _ _
  · simp
/-- the sum's table of a choice -/
noncomputable def tabP (W : Nat → Nat → Int) (f i : Nat) : List (Str × Int) := tableI (rowsF W f) (wordsP f i)
end

/-! DAsg -/
section
section
variable {prog : Program} {w : World} {A : Around} {E : Value → Shared → Prop} {s : Shared} {h₀ : Heap} {L : Addr} {m : Str → Option Value} {env : Env} {K : Type} [DecidableEq K] {knd : KeyKind prog w K}
/-- the source's iterator stands: what a dict comprehension kept under a plain name needs -/
noncomputable abbrev DAtUB {K : Type} [DecidableEq K] {prog : Program} {w : World} (knd : KeyKind prog w K) (A : Around) (h₀ : Heap) (m : Str → Option Value) (env : Env) (ct kx vx : PySem.Expr) (x y : Str) (scope : Scope) (cl : List (Str × Addr)) (Q : Shared → Prop) (it : Value) (s₂ : Shared) : Prop :=
  ∃ (I : Addr) (fp : List Addr) (n : Nat) (P : Nat → Value → Prop) (St : Nat → Heap → Prop) (news : List (Addr × Obj)) (J : Nat → List (K × Value) → Prop),
    it = .ref I ∧ Walks prog w A I fp [I] n P St ∧ n ≤ sizeLine ∧ (∀ i h, St i h → ∃ o, h.get? I = some o) ∧ StOk h₀ env.locals I news St ∧ St 0 s₂.heap ∧ (∀ b ∈ fp, b < s₂.heap.objs.size) ∧
    Fr h₀ env.locals s₂.heap m ∧ News h₀ env.locals s₂.heap news ∧ env.locals ≠ I ∧ h₀.get? I = none ∧ (∀ p ∈ news, p.1 ≠ I) ∧ J 0 [] ∧ (∀ i kvs, J i kvs → kvs.length ≤ i) ∧
    DTurn prog w A h₀ env.locals m env ct kx vx x scope cl s₂ news knd P n J ∧
    (∀ D oD kvs h tk, (@LT.lt Nat _ env.locals D) → Fr h₀ env.locals h (fun z => if z = y then some (.ref D) else m z) → News h₀ env.locals h ((D, oD) :: news) → oD.IsDictOf knd kvs → LCg.Off1 D news → J n kvs → Q { s₂ with heap := h, toks := tk })
noncomputable def DAtU (prog : Program) (w : World) (A : Around) (h₀ : Heap) (m : Str → Option Value) (env : Env) (ct kx vx : PySem.Expr) (x y : Str) (scope : Scope) (cl : List (Str × Addr)) (Q : Shared → Prop) (it : Value) (s₂ : Shared) : Prop :=
  ∃ (K : Type) (_ : DecidableEq K) (knd : KeyKind prog w K), DAtUB knd A h₀ m env ct kx vx x y scope cl Q it s₂
theorem Assign_DictComp_D {kx vx ct iter : PySem.Expr} {x y : Str} {px py spos : Pos} {scope : Scope} {cl : List (Str × Addr)} {pos : Pos} {Q : Flow → Shared → Prop} (_F : Fr h₀ env.locals s.heap m := by k_asm)
    (hsw : swapsWith (.DictComp kx vx [⟨.Name x px, iter, [ct], 0⟩] scope pos) (some (.Name y py)) spos.line env = pure true := by with_unfolding_all rfl)
    (hclos : closureFor scope env = pure cl := by with_unfolding_all rfl) (hcell : ∀ y ∈ scope.names, y.2 ≠ .cell := by decide) (hkind : scope.kind = .function := by rfl)
    (hnames : ∀ y ∈ scope.names, y.2 = .local → scope.names.lookup y.1 = some .local := by decide) (hx : scope.names.lookup x = some .local := by rfl)
    (hy : env.kindOf y = some .local := by with_unfolding_all rfl) (hp : (env.scope.kind == .class || (env.scope.kind == .module && env.locals != env.globals)) = false := by with_unfolding_all rfl)
    (h : wpAny (model prog w) A (eval iter env) (fun xv s₁ => Hold (wpAny (model prog w) A (pyIter xv) (DAtU prog w A h₀ m env ct kx vx x y scope cl (Q .next)) E s₁)) E s)
    (hs : ∀ x, foldedSetIterable iter env x = pure x := by intro _; rfl) :
    wpAny (model prog w) A (exec (.Assign [.Name y py] (.DictComp kx vx [⟨.Name x px, iter, [ct], 0⟩] scope pos) spos) env) Q E s := by
  rw [exec_Assign_Name_used _ _ _ _ hsw]
  refine wpAny_bind (wpAny_standAt (wpAny_bind ?_))
  show wpAny _ A (do let _ ← comprehension (.DictComp kx vx [⟨.Name x px, iter, [ct], 0⟩] scope pos) scope env _ newDict false (eval iter env) (some (assign (.Name y py) env))) _ _ s
  refine wpAny_bind (wpAny_mono (wpAny_comprehension_free (use := some (assign (.Name y py) env)) (Q := fun _ s' => Q .next s') rfl hs hclos hkind hnames
    (wpAny_mono h (fun xv s₁ h₁ => wpAny_mono h₁ (fun it s₂ h₂ => ?_) fun _ _ e => e) fun _ _ e => e)) (fun _ s' hq => wpAny_pure (wpAny_pure hq)) fun _ _ e => e)
  obtain ⟨K, hK, knd, hb⟩ := h₂
  refine ex7 hb fun I fp n P St news J hq => ?_
  have qr := hq.1
  have W := hq.2.1
  have hsz := hq.2.2.1
  have hIo := hq.2.2.2.1
  have hSt := hq.2.2.2.2.1
  have hst := hq.2.2.2.2.2.1
  have hfp := hq.2.2.2.2.2.2.1
  have F := hq.2.2.2.2.2.2.2.1
  have N := hq.2.2.2.2.2.2.2.2.1
  have hIL := hq.2.2.2.2.2.2.2.2.2.1
  have hI₀ := hq.2.2.2.2.2.2.2.2.2.2.1
  have off := hq.2.2.2.2.2.2.2.2.2.2.2.1
  have h0 := hq.2.2.2.2.2.2.2.2.2.2.2.2.1
  have hJl := hq.2.2.2.2.2.2.2.2.2.2.2.2.2.1
  have turn := hq.2.2.2.2.2.2.2.2.2.2.2.2.2.2.1
  have fin := hq.2.2.2.2.2.2.2.2.2.2.2.2.2.2.2
  clear hq hb
  subst qr
  refine block_D (knd := knd) (RR := fun acc C => compPost (model prog w) A E (some (assign (.Name y py) env)) (fun _ s' => Q .next s') acc C) J W hsz hIo hSt hcell hkind hx hst hfp F N hIL hI₀ off h0 hJl turn ?_
  intro D oD kvs C h' tk m' hLD F' N' hd o1 hn hC₀ hCL hCD offC hj
  refine wpAny_assign_Name (wpAny_storeName_local hy F'.ns (fun h3 hn3 hs3 => ?_) hp)
  refine ⟨m', hn.sameBut hs3 hCL, fun h'' hs'' => fin D oD kvs h'' _ hLD ((F'.set hn3 hs3).change hs'' hCL hC₀) (fun p hp => ?_) hd o1 hj⟩
  have N3 := N'.set hs3
  refine ⟨hs''.extBut _ _ ?_ (N3 p hp).1, (N3 p hp).2⟩
  rcases List.mem_cons.mp hp with rfl | hp
  · exact Ne.symm hCD
  · exact offC p hp
theorem iter_listDU {ct kx vx : PySem.Expr} {x y : Str} {scope : Scope} {cl : List (Str × Addr)} {Q : Shared → Prop} {ax : Addr} {its : Array Value} {news : List (Addr × Obj)} (knd : KeyKind prog w K) (J : Nat → List (K × Value) → Prop)
    (hh : A.handled = none) (hl : LCg.SrcAt h₀ ax its news) (hsz : its.size ≤ sizeLine) (F : Fr h₀ env.locals s.heap m) (N : News h₀ env.locals s.heap news)
    (h0 : J 0 []) (hJl : ∀ i kvs, J i kvs → kvs.length ≤ i)
    (turn : ∀ s₂, (∃ h, s₂ = { s with heap := h }) → DTurn prog w A h₀ env.locals m env ct kx vx x scope cl s₂ news knd (fun i v => its[i]? = some v) its.size J)
    (fin : ∀ D oD kvs h tk, (@LT.lt Nat _ env.locals D) → Fr h₀ env.locals h (fun z => if z = y then some (.ref D) else m z) → News h₀ env.locals h ((D, oD) :: news) → oD.IsDictOf knd kvs → LCg.Off1 D news → J its.size kvs → Q { s with heap := h, toks := tk }) :
    wpAny (model prog w) A (pyIter (.ref ax)) (DAtU prog w A h₀ m env ct kx vx x y scope cl Q) E s := by
  have hls : s.heap.IsList ax its := hl.list F.keep N
  have hlt : ax < s.heap.objs.size := by obtain ⟨_, e, _⟩ := hls; exact Heap.lt_size e
  refine wpAny_pyIter_list hls ?_
  refine ⟨K, inferInstance, knd, s.heap.objs.size, _, its.size, _, _, news, J, rfl, Walks.list hh _ _ (Nat.ne_of_lt hlt) its, hsz, fun i h st => ?_, ?_, ⟨⟨_, Heap.get?_push_size _ rfl, rfl, rfl⟩, hls.push _⟩, (fun b hb => ?_), F.keeps fun _ _ e => Heap.get?_push_of_some _ e, N.grown fun _ _ e => Heap.get?_push_of_some _ e, Nat.ne_of_lt F.ns.lt, none_ge F (Nat.le_refl _), (fun p hp => Nat.ne_of_lt (Heap.lt_size (N p hp).1)), h0, hJl, turn _ ⟨_, rfl⟩, fin⟩
  · obtain ⟨⟨o, e, _⟩, _⟩ := st; exact ⟨o, e⟩
  · intro i h h' o st e e' k N
    exact LCg.list_st (h₀ := h₀) i h h' o _ st e e' k N hl
  · show b < (s.heap.push _).objs.size
    rw [Heap.size_push]
    rcases List.mem_cons.mp hb with rfl | hb
    · exact Nat.lt_succ_self _
    · rw [List.mem_singleton.mp hb]; exact Nat.lt_succ_of_lt hlt
end
end

/-! PlainA -/
section
/-- a text's signs -/
noncomputable def cpL (t : Str) : List Nat := t.cps.toList
theorem cpL_inj {x y : Str} (h : cpL x = cpL y) : x = y := by
  obtain ⟨⟨a⟩⟩ := x
  obtain ⟨⟨b⟩⟩ := y
  have h : a = b := h
  subst h; rfl
theorem cpL_append (x y : Str) : cpL (x ++ y) = cpL x ++ cpL y := by
  show (x.cps ++ y.cps).toList = _
  rw [Array.toList_append]; rfl
theorem cpL_len (x : Str) : (cpL x).length = x.length := by
  show x.cps.toList.length = x.cps.size
  simp
theorem cpL_empty : cpL (Str.ofString "") = [] := by decide +kernel
theorem cpL_join : ∀ l : List Str, cpL (Txt.join (Str.ofString "") l) = (l.map cpL).flatten := by
  intro l
  show cpL (Builtin.Str.glued (Str.ofString "") l) = _
  rw [StrLaws.glued_eq_join]
  induction l with
  | nil => rfl
  | cons x r ih =>
    cases r with
    | nil => simp [Str.join]
    | cons y r =>
      show cpL (x ++ Str.ofString "" ++ Str.join (Str.ofString "") (y :: r)) = _
      rw [cpL_append, cpL_append, cpL_empty, ih]
      simp
theorem cpL_slice {t : Str} {a b : Nat} (hab : a ≤ b) (hb : b ≤ t.length) : cpL (Txt.slice t (some (a : Int)) (some (b : Int))) = ((cpL t).take b).drop a := by
  have h1 := StrLaws.sliced_plain t hab hb
  have hl := StrLaws.strSliceIndices_plain (a := a) (b := b) (len := t.length) hab hb
  unfold Txt.slice
  rw [h1, hl]
  simp only [List.length_map, List.length_range]
  have key : ((cpL t).take b).drop a = ((cpL t).drop a).take (b - a) := List.drop_take
  split
  · rename_i h
    have h : b - a = t.length := by simpa using h
    have ha : a = 0 := by omega
    have hb' : b = t.length := by omega
    rw [key, ha, hb']
    rw [List.drop_zero, List.take_of_length_le (by rw [cpL_len]; omega)]
  · rw [key]; rfl
theorem slice_none (t : Str) (a : Int) : Txt.slice t (some a) none = Txt.slice t (some a) (some (t.length : Int)) := by
  have : Builtin.Str.strSliceIndices (some a) none 1 t.length = Builtin.Str.strSliceIndices (some a) (some (t.length : Int)) 1 t.length := by
    unfold Builtin.Str.strSliceIndices
    have h2 : ¬ ((t.length : Int) < 0) := Int.not_lt.mpr (Int.natCast_nonneg _)
    have e2 : max (0 : Int) (min (t.length : Int) (t.length : Int)) = t.length := by rw [Int.min_self, Int.max_eq_right (Int.natCast_nonneg _)]
    simp only [h2, if_false, e2, show ((1 : Int) > 0) = True from by simp, if_true]
  unfold Txt.slice
  rw [this]
theorem cpL_slice_end {t : Str} {a : Nat} (ha : a ≤ t.length) : cpL (Txt.slice t (some (a : Int)) none) = (cpL t).drop a := by
  rw [slice_none, cpL_slice ha (Nat.le_refl _), List.take_of_length_le (by rw [cpL_len]; omega)]

/-- what is kept of the signs: behind a mark that hides, within a quotation -/
noncomputable def outS : List Nat → Bool → Bool → List Nat
  | [], _, _ => []
  | c :: r, true, o => (if o then [] else [c]) ++ outS r false o
  | c :: r, false, o => if c = 92 then (if o then [] else [c]) ++ outS r true o else if c = 34 then outS r false (!o) else (if o then [] else [c]) ++ outS r false o
/-- is a quotation open at the end? -/
noncomputable def openS : List Nat → Bool → Bool → Bool
  | [], _, o => o
  | _ :: r, true, o => openS r false o
  | c :: r, false, o => if c = 92 then openS r true o else if c = 34 then openS r false (!o) else openS r false o

/-- what the fold has kept when i signs are read -/
noncomputable def KeptS (t : Str) (i : Nat) (O : List Nat) (o : Bool) (st : StF) : Prop :=
  ∃ a : Nat, st.1 = (a : Int) ∧ a ≤ i ∧ match st.2.1 with
    | none => o = false ∧ (st.2.2.map cpL).flatten ++ ((cpL t).take i).drop a = O
    | some p => o = true ∧ ∃ b : Nat, p = (b : Int) ∧ a ≤ b ∧ b ≤ i ∧ (st.2.2.map cpL).flatten ++ ((cpL t).take b).drop a = O

theorem take_succ_drop {l : List Nat} {i a c : Nat} {r : List Nat} (h : l.drop i = c :: r) (ha : a ≤ i) : (l.take (i + 1)).drop a = (l.take i).drop a ++ [c] := by
  have hi : l[i]? = some c := by rw [← List.head?_drop, h]; rfl
  have hlt : i < l.length := by
    have := List.getElem?_eq_some_iff.mp hi
    exact this.1
  rw [List.take_add_one, hi, List.drop_append_of_le_length (by rw [List.length_take]; omega)]
  rfl
theorem KeptS.other {t : Str} {i c : Nat} {r O : List Nat} {o : Bool} {st : StF} (h : KeptS t i O o st) (e : (cpL t).drop i = c :: r) : KeptS t (i + 1) (O ++ if o then [] else [c]) o st := by
  obtain ⟨a, h1, h2, h3⟩ := h
  refine ⟨a, h1, by omega, ?_⟩
  cases hs : st.2.1 with
  | none =>
    rw [hs] at h3
    obtain ⟨rfl, h3⟩ := h3
    refine ⟨rfl, ?_⟩
    rw [take_succ_drop e h2, ← h3]
    simp
  | some p =>
    rw [hs] at h3
    obtain ⟨rfl, b, h4, h5, h6, h7⟩ := h3
    exact ⟨rfl, b, h4, h5, by omega, by simpa using h7⟩
theorem quote_one : (⟨#[34]⟩ : Str) = Str.ofString "\"" := by decide +kernel
theorem KeptS.quote {t : Str} {i : Nat} {r O : List Nat} {o : Bool} {st : StF} (h : KeptS t i O o st) (e : (cpL t).drop i = 34 :: r) : KeptS t (i + 1) O (!o) (stepS t st ((i : Int), ⟨#[34]⟩)) := by
  have hlt : i < t.length := by
    rw [← cpL_len]
    cases Nat.lt_or_ge i (cpL t).length with
    | inl h => exact h
    | inr h => rw [List.drop_of_length_le h] at e; cases e
  obtain ⟨a, h1, h2, h3⟩ := h
  unfold stepS
  rw [if_pos quote_one]
  cases hs : st.2.1 with
  | none =>
    rw [hs] at h3
    obtain ⟨rfl, h3⟩ := h3
    exact ⟨a, h1, by omega, rfl, i, rfl, h2, by omega, h3⟩
  | some p =>
    rw [hs] at h3
    obtain ⟨rfl, b, rfl, h5, h6, h7⟩ := h3
    refine ⟨i + 1, by simp, Nat.le_refl _, rfl, ?_⟩
    dsimp only
    rw [List.drop_of_length_le (by rw [List.length_take]; omega), List.append_nil]
    rw [h1]
    by_cases q : a = b
    · subst q
      rw [if_neg (by simp)]
      rw [List.drop_of_length_le (by rw [List.length_take]; omega), List.append_nil] at h7
      exact h7
    · rw [if_pos (by omega)]
      rw [List.map_append, List.flatten_append, List.map_singleton, cpL_slice h5 (by omega)]
      simpa using h7
theorem two_quote (c : Nat) : ¬ (Str.ofString "\\" ++ ⟨#[c]⟩ : Str) = Str.ofString "\"" := by
  intro h
  have := congrArg Str.length h
  rw [Str.length_append] at this
  have e1 : (Str.ofString "\\").length = 1 := by decide +kernel
  have e2 : (Str.ofString "\"").length = 1 := by decide +kernel
  rw [e1, e2] at this
  exact absurd this (by show ¬ 1 + 1 = 1; decide)
theorem one_quote {c : Nat} (hc : c ≠ 34) : ¬ (⟨#[c]⟩ : Str) = Str.ofString "\"" := by
  rw [← quote_one]
  intro h
  injection h with h
  simp at h
  exact hc h
theorem kept_all (t : Str) : ∀ (suf : List Nat) (i : Nat) (e o : Bool) (O : List Nat) (st : StF), (cpL t).drop i = suf → KeptS t i O o st →
    KeptS t (i + suf.length) (O ++ outS suf e o) (openS suf e o) ((tokF suf i e).foldl (stepS t) st)
  | [], i, e, o, O, st, _, h => by simpa [tokF, outS, openS] using h
  | c :: r, i, true, o, O, st, hd, h => by
    have hd' : (cpL t).drop (i + 1) = r := by rw [← List.drop_drop, hd]; rfl
    rw [tokF_esc, List.foldl_cons, stepS_other (two_quote c)]
    have := kept_all t r (i + 1) false o _ st hd' (h.other hd)
    rw [List.append_assoc] at this
    rw [List.length_cons, show i + (r.length + 1) = i + 1 + r.length by omega]
    exact this
  | c :: r, i, false, o, O, st, hd, h => by
    have hd' : (cpL t).drop (i + 1) = r := by rw [← List.drop_drop, hd]; rfl
    rw [List.length_cons, show i + (r.length + 1) = i + 1 + r.length by omega]
    unfold outS openS
    by_cases h1 : c = 92
    · subst h1
      rw [tokF_bs, if_pos rfl, if_pos rfl]
      have := kept_all t r (i + 1) true o _ st hd' (h.other hd)
      rw [List.append_assoc] at this
      exact this
    · rw [tokF_ch h1, List.foldl_cons, if_neg h1, if_neg h1]
      by_cases h2 : c = 34
      · subst h2
        rw [if_pos rfl, if_pos rfl]
        exact kept_all t r (i + 1) false (!o) _ _ hd' (h.quote hd)
      · rw [if_neg h2, if_neg h2, stepS_other (one_quote h2)]
        have := kept_all t r (i + 1) false o _ st hd' (h.other hd)
        rw [List.append_assoc] at this
        exact this
theorem outS_free : ∀ (l : List Nat) (e : Bool), 34 ∉ l → outS l e false = l
  | [], _, _ => rfl
  | c :: r, true, h => by
    show [c] ++ outS r false false = _
    rw [outS_free r false fun x => h (.tail _ x)]; rfl
  | c :: r, false, h => by
    have hc : c ≠ 34 := fun x => h (x ▸ .head _)
    unfold outS
    rw [outS_free r true fun x => h (.tail _ x), outS_free r false fun x => h (.tail _ x)]
    simp [hc]
theorem stripF_out {t : Str} (h : openS (cpL t) false false = false) : cpL (stripF t) = outS (cpL t) false false := by
  unfold stripF
  split
  · rename_i hq
    have := StrLaws.found_one t 34
    rw [quote_one, hq] at this
    have hm : 34 ∉ cpL t := by simpa [cpL] using this
    rw [outS_free _ _ hm]
  · have h0 : KeptS t 0 [] false (0, none, []) := ⟨0, rfl, Nat.le_refl _, rfl, by simp⟩
    have k := kept_all t (cpL t) 0 false false [] _ rfl h0
    rw [h, List.nil_append, Nat.zero_add] at k
    rw [cpL_join]
    show (List.map cpL (tailS t (foldS t (tokF (cpL t) 0 false)))).flatten = _
    unfold foldS
    generalize (tokF (cpL t) 0 false).foldl (stepS t) (0, none, []) = st at k
    obtain ⟨a, h1, h2, h3⟩ := k
    rw [cpL_len] at h2
    unfold tailS
    cases hs : st.2.1 with
    | some p => rw [hs] at h3; exact absurd h3.1 (by simp)
    | none =>
      rw [hs] at h3
      obtain ⟨-, h3⟩ := h3
      rw [List.take_of_length_le (Nat.le_refl _)] at h3
      rw [h1]
      by_cases hlt : (a : Int) < (t.length : Int)
      · rw [if_pos hlt, List.map_append, List.flatten_append, List.map_singleton, cpL_slice_end h2]
        simpa using h3
      · rw [if_neg hlt]
        rw [List.drop_of_length_le (by rw [cpL_len]; omega), List.append_nil] at h3
        exact h3
/-- marks ahead -/
theorem outS_marks (r : List Nat) : ∀ (k : Nat) (o : Bool), outS (List.replicate k 34 ++ r) false o = outS r false (o ^^ decide (k % 2 = 1)) ∧ openS (List.replicate k 34 ++ r) false o = openS r false (o ^^ decide (k % 2 = 1))
  | 0, o => by simp
  | k + 1, o => by
    have e := odd_succ k
    have := outS_marks r k (!o)
    rw [List.replicate_succ, List.cons_append]
    show outS (List.replicate k 34 ++ r) false (!o) = _ ∧ openS (List.replicate k 34 ++ r) false (!o) = _
    rw [this.1, this.2, e]
    cases o <;> cases decide (k % 2 = 1) <;> exact ⟨rfl, rfl⟩
/-- a piece: it leaves a quotation as it was -/
noncomputable def PieceOk (p : List Nat) : Prop := ∀ (r : List Nat) (o : Bool), outS (p ++ r) false o = (if o then [] else p) ++ outS r false o ∧ openS (p ++ r) false o = openS r false o
theorem piece_plain {c : Nat} (h1 : c ≠ 92) (h2 : c ≠ 34) : PieceOk [c] := fun r o => by
  show outS (c :: r) false o = _ ∧ openS (c :: r) false o = _
  constructor
  · conv => lhs; unfold outS
    rw [if_neg h1, if_neg h2]
  · conv => lhs; unfold openS
    rw [if_neg h1, if_neg h2]
theorem piece_hid (c : Nat) : PieceOk [92, c] := fun r o => by
  cases o <;> exact ⟨rfl, rfl⟩
theorem marks_piece {p : List Nat} (hp : PieceOk p) (k : Nat) (r : List Nat) : outS (List.replicate k 34 ++ p ++ List.replicate k 34 ++ r) false false = (if k % 2 = 1 then [] else p) ++ outS r false false ∧
    openS (List.replicate k 34 ++ p ++ List.replicate k 34 ++ r) false false = openS r false false := by
  rw [List.append_assoc, List.append_assoc]
  rw [(outS_marks _ k _).1, (outS_marks _ k _).2, (hp _ _).1, (hp _ _).2, (outS_marks _ k _).1, (outS_marks _ k _).2]
  by_cases h : k % 2 = 1 <;> simp [h]
theorem mul_marks (z : Int) (h : 0 ≤ z) : cpL (Txt.mul (Str.ofString "\"") z) = List.replicate z.toNat 34 := by
  have e : cpL (Str.ofString "\"") = [34] := by decide +kernel
  unfold Txt.mul
  by_cases h1 : z < 1
  · have : z = 0 := by omega
    subst this; rfl
  · rw [if_neg h1]
    split
    · rename_i h2
      have h3 : (Str.ofString "\"").length = 1 := by decide +kernel
      rw [h3] at h2
      have : z = 1 := by simpa using h2
      subst this; exact e
    · have key : ∀ (n : Nat) (acc : Array Nat), ((List.replicate n (Str.ofString "\"").cps).foldl (· ++ ·) acc).toList = acc.toList ++ List.replicate n 34 := by
        intro n
        induction n with
        | zero => intro acc; simp
        | succ n ih =>
          intro acc
          rw [List.replicate_succ, List.foldl_cons, ih, Array.toList_append]
          have e : (Str.ofString "\"").cps.toList = [34] := e
          rw [e, List.append_assoc]
          rfl
      show ((List.replicate z.toNat (Str.ofString "\"").cps).foldl (· ++ ·) #[]).toList = _
      rw [key]; rfl
theorem cpL_markT {x : Option Int} {p : Str} (h : 0 ≤ x.getD 0) : cpL (markT x p) = List.replicate (x.getD 0).toNat 34 ++ cpL p ++ List.replicate (x.getD 0).toNat 34 := by
  unfold markT
  rw [cpL_append, cpL_append, mul_marks _ h]
/-- the four marked pieces: what is left is the pieces whose marks are even -/
theorem strip_four {x0 x1 x2 x3 : Option Int} {p0 p1 p2 p3 : Str} (h0 : 0 ≤ x0.getD 0) (h1 : 0 ≤ x1.getD 0) (h2 : 0 ≤ x2.getD 0) (h3 : 0 ≤ x3.getD 0) (q0 : PieceOk (cpL p0)) (q1 : PieceOk (cpL p1)) (q2 : PieceOk (cpL p2)) (q3 : PieceOk (cpL p3)) :
    cpL (stripF (Txt.join (Str.ofString "") [markT x0 p0, markT x1 p1, markT x2 p2, markT x3 p3])) =
      (if (x0.getD 0).toNat % 2 = 1 then [] else cpL p0) ++ ((if (x1.getD 0).toNat % 2 = 1 then [] else cpL p1) ++ ((if (x2.getD 0).toNat % 2 = 1 then [] else cpL p2) ++ (if (x3.getD 0).toNat % 2 = 1 then [] else cpL p3))) := by
  have e : cpL (Txt.join (Str.ofString "") [markT x0 p0, markT x1 p1, markT x2 p2, markT x3 p3]) = cpL (markT x0 p0) ++ (cpL (markT x1 p1) ++ (cpL (markT x2 p2) ++ (cpL (markT x3 p3) ++ []))) := by
    rw [cpL_join]; rfl
  rw [cpL_markT h0, cpL_markT h1, cpL_markT h2, cpL_markT h3] at e
  rw [stripF_out]
  · rw [e, (marks_piece q0 _ _).1, (marks_piece q1 _ _).1, (marks_piece q2 _ _).1, (marks_piece q3 _ _).1]
    show _ ++ (_ ++ (_ ++ (_ ++ []))) = _
    rw [List.append_nil]
  · rw [e, (marks_piece q0 _ _).2, (marks_piece q1 _ _).2, (marks_piece q2 _ _).2, (marks_piece q3 _ _).2]
    rfl
/-- no mark is left over at the end -/
theorem endE_marks (r : List Nat) : ∀ k : Nat, endE (List.replicate k 34 ++ r) false = endE r false
  | 0 => rfl
  | k + 1 => by
    rw [List.replicate_succ, List.cons_append]
    show endE (List.replicate k 34 ++ r) (decide (34 = 92)) = _
    exact endE_marks r k
theorem end_piece {p : List Nat} (hp : ∀ r, endE (p ++ r) false = endE r false) (k : Nat) (r : List Nat) : endE (List.replicate k 34 ++ p ++ List.replicate k 34 ++ r) false = endE r false := by
  rw [List.append_assoc, List.append_assoc, endE_marks, hp, endE_marks]
theorem end_four {x0 x1 x2 x3 : Option Int} {p0 p1 p2 p3 : Str} (h0 : 0 ≤ x0.getD 0) (h1 : 0 ≤ x1.getD 0) (h2 : 0 ≤ x2.getD 0) (h3 : 0 ≤ x3.getD 0)
    (q0 : ∀ r, endE (cpL p0 ++ r) false = endE r false) (q1 : ∀ r, endE (cpL p1 ++ r) false = endE r false) (q2 : ∀ r, endE (cpL p2 ++ r) false = endE r false) (q3 : ∀ r, endE (cpL p3 ++ r) false = endE r false) :
    endE (cpL (Txt.join (Str.ofString "") [markT x0 p0, markT x1 p1, markT x2 p2, markT x3 p3])) false = false := by
  have e : cpL (Txt.join (Str.ofString "") [markT x0 p0, markT x1 p1, markT x2 p2, markT x3 p3]) = cpL (markT x0 p0) ++ (cpL (markT x1 p1) ++ (cpL (markT x2 p2) ++ (cpL (markT x3 p3) ++ []))) := by
    rw [cpL_join]; rfl
  rw [cpL_markT h0, cpL_markT h1, cpL_markT h2, cpL_markT h3] at e
  rw [e, end_piece q0, end_piece q1, end_piece q2, end_piece q3]
  rfl
theorem len_markT {x : Option Int} {p : Str} (h : 0 ≤ x.getD 0) (h8 : x.getD 0 ≤ 8) (hp : p.length ≤ 2) : (cpL (markT x p)).length ≤ 18 := by
  rw [cpL_markT h]
  simp only [List.length_append, List.length_replicate, cpL_len]
  omega
theorem len_four {x0 x1 x2 x3 : Option Int} {p0 p1 p2 p3 : Str} (h0 : 0 ≤ x0.getD 0) (h1 : 0 ≤ x1.getD 0) (h2 : 0 ≤ x2.getD 0) (h3 : 0 ≤ x3.getD 0) (g0 : x0.getD 0 ≤ 8) (g1 : x1.getD 0 ≤ 8) (g2 : x2.getD 0 ≤ 8) (g3 : x3.getD 0 ≤ 8)
    (q0 : p0.length ≤ 2) (q1 : p1.length ≤ 2) (q2 : p2.length ≤ 2) (q3 : p3.length ≤ 2) : (Txt.join (Str.ofString "") [markT x0 p0, markT x1 p1, markT x2 p2, markT x3 p3]).length ≤ 200 := by
  rw [← cpL_len, cpL_join]
  have := len_markT h0 g0 q0
  have := len_markT h1 g1 q1
  have := len_markT h2 g2 q2
  have := len_markT h3 g3 q3
  simp only [List.map_cons, List.map_nil, List.flatten_cons, List.flatten_nil, List.length_append, List.length_nil]
  exact Nat.le_trans (Nat.add_le_add (by assumption) (Nat.add_le_add (by assumption) (Nat.add_le_add (by assumption) (Nat.add_le_add (by assumption) (Nat.le_refl 0))))) (by decide)
end

/-! PlainB -/
section
/-- the members of a choice -/
noncomputable def mems (i : Nat) : List Nat := (List.range 4).filter fun r => decide (i / 2 ^ r % 2 = 1)
/-- what the sum tells of the column's function -/
noncomputable def colS (W : Nat → Nat → Int) (i c : Nat) : Int := ((mems i).map fun r => W r c).sum
noncomputable def valI (is : List (Str × Int)) (k : Str) : Int := (lookI is k).getD 0
theorem lookI_cons (p : Str × Int) (is : List (Str × Int)) (k : Str) : lookI (p :: is) k = if p.1 = k then some p.2 else lookI is k := by
  unfold lookI
  rw [List.find?_cons]
  by_cases h : p.1 = k <;> simp [h]
theorem lookI_append (is js : List (Str × Int)) (k : Str) : lookI (is ++ js) k = (lookI is k).or (lookI js k) := by
  unfold lookI
  rw [List.find?_append]
  cases List.find? (fun p => decide (p.1 = k)) is <;> rfl
theorem lookI_put (k k' : Str) (z : Int) : ∀ is : List (Str × Int), lookI (is.map fun q => if q.1 = k then (q.1, z) else q) k' = if k' = k then (lookI is k).map (fun _ => z) else lookI is k'
  | [] => by simp [lookI]
  | q :: is => by
    rw [List.map_cons, lookI_cons, lookI_cons, lookI_cons, lookI_put k k' z is]
    by_cases h1 : q.1 = k
    · by_cases h2 : k' = k
      · subst h2; simp [h1]
      · have h3 : ¬ k = k' := fun e => h2 e.symm
        simp [h1, h2, h3]
    · by_cases h2 : k' = k
      · subst h2; simp [h1]
      · simp [h1, h2]
theorem val_add (is : List (Str × Int)) (k : Str) (y : Int) (k' : Str) : valI (addI is (k, y)) k' = valI is k' + if k = k' then y else 0 := by
  unfold valI addI
  by_cases h : k = k'
  · subst h
    cases q : lookI is k with
    | none => dsimp only; rw [lookI_append, q, lookI_cons]; simp
    | some x => dsimp only; rw [lookI_put, q]; simp
  · have h' : ¬ k' = k := fun e => h e.symm
    cases q : lookI is k with
    | none => dsimp only; rw [lookI_append, lookI_cons]; simp [h, lookI]
    | some x => dsimp only; rw [lookI_put]; simp [h, h']
noncomputable def hitS (k : Str) (js : List (Str × Int)) : Int := (js.map fun p => if p.1 = k then p.2 else 0).sum
theorem val_merge (k : Str) : ∀ (js is : List (Str × Int)), valI (mergeI is js) k = valI is k + hitS k js
  | [], is => by simp [mergeI, hitS]
  | p :: js, is => by
    have := val_merge k js (addI is p)
    unfold mergeI at this ⊢
    rw [List.foldl_cons, this, val_add]
    simp only [hitS, List.map_cons, List.sum_cons]
    omega
theorem val_table (rows : Str → List (Str × Int)) (k : Str) : ∀ (ws : List Str), valI (tableI rows ws) k = (ws.map fun w => hitS k (rows w)).sum := by
  have key : ∀ (ws : List Str) (acc : List (Str × Int)), valI (ws.foldl (fun acc x => mergeI acc (rows x)) acc) k = valI acc k + (ws.map fun w => hitS k (rows w)).sum := by
    intro ws
    induction ws with
    | nil => intro acc; simp
    | cons w ws ih =>
      intro acc
      rw [List.foldl_cons, ih, val_merge, List.map_cons, List.sum_cons]
      omega
  intro ws
  unfold tableI
  rw [key]
  simp [valI, lookI]
theorem hitS_append (k : Str) (is js : List (Str × Int)) : hitS k (is ++ js) = hitS k is + hitS k js := by
  unfold hitS
  rw [List.map_append, List.sum_append]
/-- a row told of a name -/
theorem hit_row {nm : Nat → Str} {W : Nat → Int} (h0 : ∀ j, 0 ≤ W j) {c : Nat} (hc : c < 4) (inj : ∀ i j, i < 4 → j < 4 → nm i = nm j → i = j) : ∀ n, n ≤ 4 → hitS (nm c) (rowL nm W n) = if c < n then W c else 0
  | 0, _ => by simp [rowL, hitS]
  | n + 1, hn => by
    have ih := hit_row h0 hc inj n (by omega)
    by_cases hp : 0 < W n
    · rw [rowL_succ_pos hp, hitS_append, ih]
      by_cases e : c = n
      · subst e
        simp [hitS]
      · have : ¬ nm n = nm c := fun q => e (inj c n hc (by omega) q.symm)
        have e1 : (c < n + 1) = (c < n) := propext ⟨fun _ => by omega, fun _ => by omega⟩
        simp [hitS, this, e1]
    · rw [rowL_succ_neg hp, ih]
      by_cases e : c = n
      · subst e
        have := h0 c
        have : W c = 0 := by omega
        simp [this]
      · have e1 : (c < n + 1) = (c < n) := propext ⟨fun _ => by omega, fun _ => by omega⟩
        simp [e1]
theorem hit_none {nm : Nat → Str} {W : Nat → Int} {k : Str} (h : ∀ j, j < 4 → nm j ≠ k) : ∀ n, n ≤ 4 → hitS k (rowL nm W n) = 0
  | 0, _ => by simp [rowL, hitS]
  | n + 1, hn => by
    have ih := hit_none h n (by omega) (W := W)
    by_cases hp : 0 < W n
    · rw [rowL_succ_pos hp, hitS_append, ih]
      simp [hitS, h n (by omega)]
    · rw [rowL_succ_neg hp, ih]
theorem wordsP_is : ∀ (f : Fin 7) (i : Fin 16), wordsP f.val i.val = if i.val = 0 then [Str.ofString "0x0"] else (mems i.val).map fun r => nmOf (f.val + r) := by decide +kernel
theorem hex_no : ∀ (f : Fin 7) (r : Fin 4), Str.ofString "0x0" ≠ nmOf (f.val + r.val) := by decide +kernel
section
variable {W : Nat → Nat → Int} {f i : Nat}
theorem nmF_inj (hf : f ≤ 6) : ∀ a b, a < 4 → b < 4 → (fun r => nmOf (f + r)) a = (fun r => nmOf (f + r)) b → a = b := fun _ _ ha hb e => nm_inj hf ha hb e
theorem mems_lt {r : Nat} (h : r ∈ mems i) : r < 4 := List.mem_range.mp (List.mem_filter.mp h).1
theorem sum_congr {α : Type} {g g' : α → Int} : ∀ {l : List α}, (∀ x ∈ l, g x = g' x) → (l.map g).sum = (l.map g').sum := fun h => by rw [List.map_congr_left h]
/-- the sum's table at a name -/
theorem val_tab (hW : ∀ i j, 0 ≤ W i j ∧ W i j ≤ 2) (hf : f ≤ 6) (hi : i < 16) {c : Nat} (hc : c < 4) : valI (tabP W f i) (nmOf (f + c)) = colS W i c := by
  unfold tabP
  rw [val_table, show wordsP f i = _ from wordsP_is ⟨f, by omega⟩ ⟨i, hi⟩]
  dsimp only
  split
  · rename_i h
    subst h
    have : rowsF W f (Str.ofString "0x0") = [] := rowsF_none fun r hr => hex_no ⟨f, by omega⟩ ⟨r, hr⟩
    simp only [List.map_cons, List.map_nil, this]
    rfl
  · rw [List.map_map]
    unfold colS
    refine sum_congr fun r hr => ?_
    have hr := mems_lt hr
    dsimp only [Function.comp]
    rw [rowsF_at hf hr]
    have := hit_row (nm := fun r => nmOf (f + r)) (W := W r) (fun j => (hW r j).1) hc (nmF_inj hf) 4 (Nat.le_refl _)
    rw [if_pos hc] at this
    exact this
theorem mems_sum_bound {g : Nat → Int} (h : ∀ r, 0 ≤ g r ∧ g r ≤ 2) : 0 ≤ ((mems i).map g).sum ∧ ((mems i).map g).sum ≤ 8 := by
  have key : ∀ l : List Nat, 0 ≤ (l.map g).sum ∧ (l.map g).sum ≤ 2 * (l.length : Int) := by
    intro l
    induction l with
    | nil => simp
    | cons r l ih =>
      have := h r
      simp only [List.map_cons, List.sum_cons, List.length_cons]
      omega
  have := key (mems i)
  have hl : (mems i).length ≤ 4 := Nat.le_trans (List.length_filter_le _ _) (by simp)
  omega
theorem val_bound (hW : ∀ i j, 0 ≤ W i j ∧ W i j ≤ 2) (hf : f ≤ 6) (hi : i < 16) (k : Str) : 0 ≤ (lookI (tabP W f i) k).getD 0 ∧ (lookI (tabP W f i) k).getD 0 ≤ 8 := by
  show 0 ≤ valI (tabP W f i) k ∧ valI (tabP W f i) k ≤ 8
  by_cases h : ∃ c, c < 4 ∧ k = nmOf (f + c)
  · obtain ⟨c, hc, rfl⟩ := h
    rw [val_tab hW hf hi hc]
    exact mems_sum_bound fun r => hW r c
  · have hno : ∀ j, j < 4 → nmOf (f + j) ≠ k := fun j hj e => h ⟨j, hj, e.symm⟩
    have : valI (tabP W f i) k = 0 := by
      unfold tabP
      rw [val_table]
      have hz : ∀ w, hitS k (rowsF W f w) = 0 := by
        intro w
        unfold rowsF
        split
        · exact hit_none (nm := fun r => nmOf (f + r)) hno 4 (Nat.le_refl _)
        · rfl
      have : ∀ ws : List Str, (ws.map fun w => hitS k (rowsF W f w)).sum = 0 := by
        intro ws
        induction ws with
        | nil => rfl
        | cons w ws ih => rw [List.map_cons, List.sum_cons, hz, ih]; rfl
      exact this _
    omega
/-- the words' part of the table, summed -/
theorem within_sum (hW : ∀ i j, 0 ≤ W i j ∧ W i j ≤ 2) (hf : f ≤ 6) (hi : i < 16) : ((wordsP f i).map fun w => valI (tabP W f i) w).sum = ((mems i).map fun c => colS W i c).sum := by
  rw [show wordsP f i = _ from wordsP_is ⟨f, by omega⟩ ⟨i, hi⟩]
  dsimp only
  split
  · rename_i h
    subst h
    have h0 : valI (tabP W f 0) (Str.ofString "0x0") = 0 := by
      unfold tabP
      rw [val_table, show wordsP f 0 = _ from wordsP_is ⟨f, by omega⟩ ⟨0, hi⟩]
      have : rowsF W f (Str.ofString "0x0") = [] := rowsF_none fun r hr => hex_no ⟨f, by omega⟩ ⟨r, hr⟩
      simp only [List.map_cons, List.map_nil, this, if_true]
      rfl
    simp only [List.map_cons, List.map_nil, h0]
    rfl
  · rw [List.map_map]
    exact sum_congr fun r hr => val_tab hW hf hi (mems_lt hr)
end
/-- the pairs between -/
noncomputable def pairs (i : Nat) : List (Nat × Nat) := ((mems i).map fun r => ((mems i).filter fun c => decide (r < c)).map fun c => (r, c)).flatten
noncomputable def pairsL : List Nat → List (Nat × Nat)
  | [] => []
  | r :: l => l.map (fun c => (r, c)) ++ pairsL l
theorem pairs_is : ∀ i : Fin 16, pairs i.val = pairsL (mems i.val) := by decide +kernel
theorem sum_two (f g : Nat → Int) : ∀ l : List Nat, (l.map fun c => f c + g c).sum = (l.map f).sum + (l.map g).sum
  | [] => rfl
  | c :: l => by
    simp only [List.map_cons, List.sum_cons]
    rw [sum_two f g l]; omega
theorem both_list {W : Nat → Nat → Int} (hs : ∀ i j, W i j = W j i) : ∀ l : List Nat, (l.map fun c => (l.map fun r => W r c).sum).sum = (l.map fun r => W r r).sum + 2 * ((pairsL l).map fun p => W p.1 p.2).sum
  | [] => rfl
  | a :: l => by
    have ih := both_list hs l
    have e1 : (l.map fun c => ((a :: l).map fun r => W r c).sum).sum = (l.map fun c => W a c).sum + (l.map fun c => (l.map fun r => W r c).sum).sum := by
      rw [← sum_two]; rfl
    have e2 : (l.map fun r => W r a) = l.map fun c => W a c := List.map_congr_left fun r _ => hs r a
    have e3 : ((pairsL (a :: l)).map fun p => W p.1 p.2).sum = (l.map fun c => W a c).sum + ((pairsL l).map fun p => W p.1 p.2).sum := by
      show ((l.map (fun c => (a, c)) ++ pairsL l).map fun p => W p.1 p.2).sum = _
      rw [List.map_append, List.sum_append, List.map_map]; rfl
    rw [e3]
    show ((a :: l).map fun r => W r a).sum + (l.map fun c => ((a :: l).map fun r => W r c).sum).sum = W a a + (l.map fun r => W r r).sum + 2 * _
    rw [e1, ih]
    show (W a a + (l.map fun r => W r a).sum) + _ = _
    rw [e2]; omega
theorem both_ways {W : Nat → Nat → Int} (hs : ∀ i j, W i j = W j i) {i : Nat} (hi : i < 16) : ((mems i).map fun c => colS W i c).sum = ((mems i).map fun r => W r r).sum + 2 * ((pairs i).map fun p => W p.1 p.2).sum := by
  rw [show pairs i = pairsL (mems i) from pairs_is ⟨i, hi⟩]
  exact both_list hs (mems i)
end

/-! SegB -/
section
/-- the law's own text, taken out of the row's program -/
noncomputable def lawDef : Stmt := PySem.Challenge.pw_zo0006_01.main.body.getLastD (.Pass ⟨0, 0, 0, 0⟩)
noncomputable def bodyOf : Stmt → List Stmt
  | .FunctionDef _ _ b _ _ _ _ _ _ _ => b
  | .For _ _ b _ _ => b
  | .If _ b _ _ => b
  | _ => []
noncomputable def scopeOf : Stmt → Scope
  | .FunctionDef _ _ _ _ _ _ s _ _ _ => s
  | _ => { kind := .function, names := [], isGenerator := false, isCoroutine := false, more := [] }
noncomputable def nthS (l : List Stmt) (i : Nat) : Stmt := l.getD i (.Pass ⟨0, 0, 0, 0⟩)
/-- the loop's turn -/
noncomputable def turnB : List Stmt := bodyOf (nthS (bodyOf lawDef) 6)
noncomputable def lawSc : Scope := scopeOf lawDef
noncomputable abbrev lawEnv (sc : Scope) (L a : Addr) (ccd : Value) : Env := envX (Str.ofString "law") sc L a ccd (cellsFrom (L + 1) sc.names [])
noncomputable abbrev lawTop (dp un : Nat) (gd : Option (List Code)) (sc : Scope) (L a : Addr) (ccd : Value) (outer : List Env) : Around := ktrTop dp un gd (Str.ofString "law") sc L a ccd (cellsFrom (L + 1) sc.names []) outer
end

/-! SegC -/
section
/-- the choice's members as values -/
noncomputable def MemsAre (i : Nat) (my : List Value) : Prop := Paired (fun (j : Nat) v => ∃ t, v = Value.int (j : Int) t) (mems i) my
theorem mems_len (i : Nat) : (mems i).length ≤ 4 := Nat.le_trans (List.length_filter_le _ _) (by simp)
theorem MemsAre.len {i : Nat} {my : List Value} (h : MemsAre i my) : my.length = (mems i).length := h.length.symm
theorem MemsAre.at {i : Nat} {my : List Value} (h : MemsAre i my) {j : Nat} {v : Value} (e : my[j]? = some v) : ∃ (r : Nat) (t : Tok), (mems i)[j]? = some r ∧ r < 4 ∧ v = .int (r : Int) t := by
  obtain ⟨c, hc, t, e⟩ := paired_at h j v e
  exact ⟨c, t, hc, mems_lt (List.mem_of_getElem? hc), e⟩
noncomputable def wRow (W : Nat → Nat → Int) (wt : Nat → Nat → Tok) (r : Nat) : List Value := [.int (W r 0) (wt r 0), .int (W r 1) (wt r 1), .int (W r 2) (wt r 2), .int (W r 3) (wt r 3)]
theorem at_ref {ra : Nat → Addr} {r : Nat} (h : r < 4) : [Value.ref (ra 0), Value.ref (ra 1), Value.ref (ra 2), Value.ref (ra 3)][((r : Int)).toNat]? = some (.ref (ra r)) := by
  have : r = 0 ∨ r = 1 ∨ r = 2 ∨ r = 3 := lt4 (by first | assumption | omega)
  rcases this with rfl | rfl | rfl | rfl <;> rfl
theorem at_row {W : Nat → Nat → Int} {wt : Nat → Nat → Tok} {r c : Nat} (h : c < 4) : (wRow W wt r)[((c : Int)).toNat]? = some (.int (W r c) (wt r c)) := by
  have : c = 0 ∨ c = 1 ∨ c = 2 ∨ c = 3 := lt4 (by first | assumption | omega)
  rcases this with rfl | rfl | rfl | rfl <;> rfl
/-- the rows' wires to a later function -/
noncomputable def outerP (W : Nat → Nat → Int) (M l : List Nat) : List Int := (l.map fun r => (M.filter fun c => decide (r < c)).map fun c => W r c).flatten
theorem outerP_pairs (W : Nat → Nat → Int) (i : Nat) : (outerP W (mems i) (mems i)).sum = ((pairs i).map fun p => W p.1 p.2).sum := by
  unfold outerP pairs
  rw [List.map_flatten, List.map_map]
  congr 2
  refine List.map_congr_left fun r _ => ?_
  simp [Function.comp, List.map_map]
theorem outerP_snoc {W : Nat → Nat → Int} {M l : List Nat} {r : Nat} : outerP W M (l ++ [r]) = outerP W M l ++ (M.filter fun c => decide (r < c)).map fun c => W r c := by
  unfold outerP
  rw [List.map_append, List.flatten_append]
  simp
theorem take_snoc {α : Type} {l : List α} {j : Nat} {x : α} (h : l[j]? = some x) : l.take (j + 1) = l.take j ++ [x] := by rw [List.take_add_one, h]; rfl
theorem ints_snoc {ys : List Value} {ns : List Int} {n : Int} {t : Tok} (h : IntsAre ys ns) : IntsAre (ys ++ [.int n t]) (ns ++ [n]) := h.append (.cons n t .nil)
theorem off1_all {D : Addr} : ∀ {l : List (Addr × Obj)}, LCg.Off1 D l → ∀ p ∈ l, p.1 ≠ D
  | [], _, _, h => by cases h
  | q :: l, h, p, hp => by
    rcases List.mem_cons.mp hp with rfl | hp
    · exact h.1
    · exact off1_all h.2 p hp
theorem paired_intsF {f : Nat → Int} : ∀ {l : List Nat} {ys : List Value}, Paired (fun j v => ∃ t, v = Value.int (f j) t) l ys → IntsAre ys (l.map f)
  | _, _, .nil => .nil
  | _, _, .cons ⟨t, e⟩ h => by subst e; exact .cons _ t (paired_intsF h)
theorem range_getD {g : Nat → Int} (M : List Nat) : (List.range M.length).map (fun j => g (M.getD j 0)) = M.map g := by
  refine List.ext_getElem (by simp) fun j h1 h2 => ?_
  have : j < M.length := by simpa using h1
  simp [List.getD, this]
theorem paired_mems {g : Nat → Int} {M : List Nat} {ys : List Value} (h : Paired (fun j v => ∃ r t, M[j]? = some r ∧ v = Value.int (g r) t) (List.range M.length) ys) : IntsAre ys (M.map g) := by
  rw [← range_getD]
  refine paired_intsF (Paired.mono (fun j v => ?_) h)
  rintro ⟨r, t, hr, rfl⟩
  exact ⟨t, by simp [List.getD, hr]⟩
end

/-! Wires -/
section
section
variable {prog : Program} {w : World} {A : Around} {E : Value → Shared → Prop} {s : Shared} {Q : Value → Shared → Prop} {a b v : Int} {t u : Tok}
theorem mod_is (hb : b ≠ 0 := by decide) (e : a.fmod b = v := by assumption) (h : ∀ t', Q (.int v t') { s with toks := s.toks + 1 }) : wpAny (model prog w) A (binaryOp .Mod (.int a t) (.int b u)) Q E s := mod_int hb (by rw [e]; exact h _)
end
theorem get_ints {vs : List Value} {ns : List Int} (h : IntsAre vs ns) {i : Nat} {v : Value} (e : vs[i]? = some v) : ∃ k t, v = .int k t := by
  obtain ⟨k, t, hk, _⟩ := IntsAre.at h i v e
  exact ⟨k, t, hk⟩

theorem if_self2 (m : Str → Option Value) (x y : Str) : (fun z => if z = x then m x else if z = y then m y else m z) = m := by
  funext z
  by_cases h1 : z = x
  · rw [if_pos h1, h1]
  · by_cases h2 : z = y
    · rw [if_neg h1, if_pos h2, h2]
    · rw [if_neg h1, if_neg h2]
theorem if_self3 (m : Str → Option Value) (x y y' : Str) : (fun z => if z = x then m x else if z = y then m y else if z = y' then m y' else m z) = m := by
  funext z
  by_cases h1 : z = x
  · rw [if_pos h1, h1]
  · by_cases h2 : z = y
    · rw [if_neg h1, if_pos h2, h2]
    · by_cases h3 : z = y'
      · rw [if_neg h1, if_neg h2, if_pos h3, h3]
      · rw [if_neg h1, if_neg h2, if_neg h3]
theorem over_third (m : Str → Option Value) {x y y' : Str} {u v w v' : Option Value} (h1 : ¬ y' = x) (h2 : ¬ y' = y) : (fun z => if z = y' then v' else (fun z => if z = x then u else if z = y then v else if z = y' then w else m z) z) = (fun z => if z = x then u else if z = y then v else if z = y' then v' else m z) := by
  funext z
  by_cases e : z = y'
  · subst e
    rw [if_pos rfl, if_neg h1, if_neg h2, if_pos rfl]
  · simp only [if_neg e]
theorem over_two (m : Str → Option Value) {x y : Str} {u v u' v' : Option Value} (h : ¬ y = x) : (fun z => if z = x then u' else (fun z => if z = y then v' else (fun z => if z = x then u else if z = y then v else m z) z) z) = (fun z => if z = x then u' else if z = y then v' else m z) := by
  funext z
  by_cases e1 : z = x
  · simp only [if_pos e1]
  · by_cases e2 : z = y
    · simp only [if_neg e1, if_pos e2]
    · simp only [if_neg e1, if_neg e2]
theorem if_over2 (m : Str → Option Value) {x y : Str} (u v : Option Value) {u' v' : Option Value} : (fun z => if z = x then u else if z = y then v else (fun z => if z = x then u' else if z = y then v' else m z) z) = (fun z => if z = x then u else if z = y then v else m z) := by
  funext z
  by_cases h1 : z = x
  · rw [if_pos h1, if_pos h1]
  · by_cases h2 : z = y
    · rw [if_neg h1, if_pos h2, if_neg h1, if_pos h2]
    · simp only [if_neg h1, if_neg h2]
theorem allLt_at {d : Addr} : ∀ {l : List (Addr × Obj)}, AllLt d l → ∀ p ∈ l, p.1 < d
  | [], _, _, h => by cases h
  | q :: l, h, p, hp => by
    rcases List.mem_cons.mp hp with rfl | hp
    · exact h.1
    · exact allLt_at h.2 p hp
theorem fst_addr' {h₀ h : Heap} {L a : Addr} {o : Obj} {rest : List (Addr × Obj)} (_ : News h₀ L h ((a, o) :: rest)) : ∃ x, x = a := ⟨a, rfl⟩
section
variable {prog : Program} {w : World} {A : Around} {E : Value → Shared → Prop} {s : Shared} {Q : Value → Shared → Prop} {b : Int} {t u : Tok}
theorem pow3_is {n : Nat} (e : b = (n : Int) := by assumption) (hn : n ≤ 64 := by assumption) (h : ∀ t', Q (.int (3 ^ n) t') { s with toks := s.toks + 1 }) : wpAny (model prog w) A (binaryOp .Pow (.int 3 t) (.int b u)) Q E s := by
  subst e
  refine pow_int (Int.natCast_nonneg _) ?_ ?_
  · have : Builtin.Int.intBits 3 = 2 := by decide +kernel
    rw [this]; omega
  · rw [Int.toNat_natCast]; exact h _
end
/-- _law_wires' own text -/
noncomputable def wiresDef : Stmt := nthS PySem.Challenge.pw_zo0006_01.main.body 10
noncomputable def wiresSc : Scope := scopeOf wiresDef
noncomputable abbrev wEnv (sc : Scope) (L a : Addr) (ccd : Value) : Env := envX (Str.ofString "_law_wires") sc L a ccd []
noncomputable abbrev wTop (dp un : Nat) (gd : Option (List Code)) (sc : Scope) (L a : Addr) (ccd : Value) (outer : List Env) : Around := ktrTop dp un gd (Str.ofString "_law_wires") sc L a ccd [] outer
/-- a row of four wires -/
noncomputable def RowIs (W : Nat → Int) (o : Obj) : Prop := ∃ (t : Nat → Tok) (n : Nat), o = lstN [.int (W 0) (t 0), .int (W 1) (t 1), .int (W 2) (t 2), .int (W 3) (t 3)] n
theorem RowIs.mk4 {W : Nat → Int} {a b c d : Int} {x y z u : Tok} {n : Nat} (h0 : a = W 0) (h1 : b = W 1) (h2 : c = W 2) (h3 : d = W 3) : RowIs W (PySem.W.listOf #[.int a x, .int b y, .int c z, .int d u] n) := by
  subst h0 h1 h2 h3
  exact ⟨fun j => [x, y, z, u].getD j 0, n, rfl⟩

noncomputable def mat4 (U : Nat → Nat → Int) (V : Nat → List Value) : Prop := ∀ r, r < 4 → IntsAre (V r) [U r 0, U r 1, U r 2, U r 3]
theorem row_set {f : Nat → Int} {x : Int} {c : Nat} (hc : c < 4) : [f 0, f 1, f 2, f 3].set c x = [if 0 = c then x else f 0, if 1 = c then x else f 1, if 2 = c then x else f 2, if 3 = c then x else f 3] := by
  have : c = 0 ∨ c = 1 ∨ c = 2 ∨ c = 3 := lt4 (by first | assumption | omega)
  rcases this with rfl | rfl | rfl | rfl <;> rfl
theorem mat_set {U : Nat → Nat → Int} {V : Nat → List Value} (hV : mat4 U V) {r c : Nat} (hr : r < 4) (hc : c < 4) (x : Int) (u : Tok) : mat4 (fun p q => if p = r then (if q = c then x else U p q) else U p q) (fun p => if p = r then (V r).set c (.int x u) else V p) := by
  intro p hp
  by_cases h : p = r
  · subst h
    simp only [if_true]
    have := ints_set (x := x) (u := u) (hV p hp) c
    rw [row_set (f := fun q => U p q) hc] at this
    exact this
  · simp only [if_neg h]
    exact hV p hp
section
variable {prog : Program} {w : World} {A : Around} {E : Value → Shared → Prop} {s : Shared} {h₀ : Heap} {L : Addr} {m : Str → Option Value} {rest : List (Addr × Obj)} {ra : Nat → Addr} {V : Nat → List Value} {U : Nat → Nat → Int} {r c : Nat} {k x : Int} {t u : Tok}
theorem set_row {Q : Unit → Shared → Prop} (F : Fr h₀ L s.heap m) (N : News h₀ L s.heap ((ra 0, lstN (V 0) 0) :: (ra 1, lstN (V 1) 0) :: (ra 2, lstN (V 2) 0) :: (ra 3, lstN (V 3) 0) :: rest))
    (dis : ∀ i j, i < 4 → j < 4 → i ≠ j → ra i ≠ ra j) (off : ∀ p ∈ rest, ∀ i, i < 4 → p.1 ≠ ra i) (hV : mat4 U V) (hr : r < 4) (hc : c < 4) (hk : k = (c : Int))
    (h : ∀ h' V', Fr h₀ L h' m → News h₀ L h' ((ra 0, lstN (V' 0) 0) :: (ra 1, lstN (V' 1) 0) :: (ra 2, lstN (V' 2) 0) :: (ra 3, lstN (V' 3) 0) :: rest) → mat4 (fun p q => if p = r then (if q = c then x else U p q) else U p q) V' → Q () { s with heap := h' }) :
    wpAny (model prog w) A (setItem (.ref (ra r)) (.int k t) (.int x u)) Q E s := by
  have hM := mat_set hV hr hc x u
  have h0 : 0 ≤ k := by omega
  have h1 : k < 4 := by omega
  have hf : k < 2 ^ 63 := by omega
  have hkn : k.toNat = c := by omega
  have this : r = 0 ∨ r = 1 ∨ r = 2 ∨ r = 3 := lt4 (by first | assumption | omega)
  have d := fun i hi hne => dis i r hi hr hne
  rcases this with rfl | rfl | rfl | rfl
  · refine ksa_set F N (.head (off_cons (d 1 (by decide) (by decide)) (off_cons (d 2 (by decide) (by decide)) (off_cons (d 3 (by decide) (by decide)) fun p hp => off p hp 0 hr)))) (hV 0 hr) h0 h1 hf fun h' F' N' _ _ _ => h h' _ F' ?_ hM
    rw [hkn] at N'; exact N'
  · refine ksa_set F N (.tail (d 0 (by decide) (by decide)) (.head (off_cons (d 2 (by decide) (by decide)) (off_cons (d 3 (by decide) (by decide)) fun p hp => off p hp 1 hr)))) (hV 1 hr) h0 h1 hf fun h' F' N' _ _ _ => h h' _ F' ?_ hM
    rw [hkn] at N'; exact N'
  · refine ksa_set F N (.tail (d 0 (by decide) (by decide)) (.tail (d 1 (by decide) (by decide)) (.head (off_cons (d 3 (by decide) (by decide)) fun p hp => off p hp 2 hr)))) (hV 2 hr) h0 h1 hf fun h' F' N' _ _ _ => h h' _ F' ?_ hM
    rw [hkn] at N'; exact N'
  · refine ksa_set F N (.tail (d 0 (by decide) (by decide)) (.tail (d 1 (by decide) (by decide)) (.tail (d 2 (by decide) (by decide)) (.head fun p hp => off p hp 3 hr)))) (hV 3 hr) h0 h1 hf fun h' F' N' _ _ _ => h h' _ F' ?_ hM
    rw [hkn] at N'; exact N'
end

theorem rows_pack {h₀ h : Heap} {L r0 r1 r2 r3 : Addr} {rest : List (Addr × Obj)} {a b c d e f g i j k l m n o p q : Tok} (N : News h₀ L h ((r0, W.listOf #[.int 0 a, .int 0 b, .int 0 c, .int 0 d] 0) :: (r1, W.listOf #[.int 0 e, .int 0 f, .int 0 g, .int 0 i] 0) :: (r2, W.listOf #[.int 0 j, .int 0 k, .int 0 l, .int 0 m] 0) :: (r3, W.listOf #[.int 0 n, .int 0 o, .int 0 p, .int 0 q] 0) :: rest)) :
    ∃ V : Nat → List Value, News h₀ L h ((r0, lstN (V 0) 0) :: (r1, lstN (V 1) 0) :: (r2, lstN (V 2) 0) :: (r3, lstN (V 3) 0) :: rest) ∧ mat4 (fun _ _ => 0) V := by
  refine ⟨fun x => match x with | 0 => [.int 0 a, .int 0 b, .int 0 c, .int 0 d] | 1 => [.int 0 e, .int 0 f, .int 0 g, .int 0 i] | 2 => [.int 0 j, .int 0 k, .int 0 l, .int 0 m] | _ => [.int 0 n, .int 0 o, .int 0 p, .int 0 q], N, ?_⟩
  intro r hr
  have : r = 0 ∨ r = 1 ∨ r = 2 ∨ r = 3 := lt4 (by first | assumption | omega)
  rcases this with rfl | rfl | rfl | rfl <;> exact .cons _ _ (.cons _ _ (.cons _ _ (.cons _ _ .nil)))
theorem row_pack {U : Nat → Nat → Int} {V : Nat → List Value} (hV : mat4 U V) {r : Nat} (hr : r < 4) : RowIs (U r) (lstN (V r) 0) := by
  have h := hV r hr
  generalize V r = v at h
  obtain ⟨t0, v1, e1, h1⟩ := h.cons_inv
  obtain ⟨t1, v2, e2, h2⟩ := h1.cons_inv
  obtain ⟨t2, v3, e3, h3⟩ := h2.cons_inv
  obtain ⟨t3, v4, e4, h4⟩ := h3.cons_inv
  have e5 := h4.nil_inv
  subst e5 e4 e3 e2 e1
  exact ⟨fun j => [t0, t1, t2, t3].getD j 0, 0, rfl⟩
local macro_rules | `(tactic| walk_at $s:str) => kP s [("eval Name", kA ``nameX_LA), ("binaryOp Mod int int", kI 1 (kA ``mod_is))]
local macro_rules | `(tactic| walk_at $s:str) => kP s [("call type:enumerate", kH)]
theorem seg_w1 : ∀ (w : World) (loose : List Str) (mean : ExcName → Option Value) (mg mb : Str → Option Value) (dp un : Nat) (gd : Option (List Code)) (a : Addr) (ccd : Value) (outer : List Env) (A₀ : Around) (base h₀ : Heap) (L : Addr) (m : Str → Option Value) (s : Shared) (Q : Flow → Shared → Prop) (E : Value → Shared → Prop)
    (l dl : Addr) (vs dv : List Value) (ns ds : List Int) (rest : List (Addr × Obj)) (sc : Scope) (hsc : sc = wiresSc) (st : Stmt) (hst : st = nthS (bodyOf wiresDef) 1),
    Site w (hd.heap_39 w.params) loose mean mg mb dp un sc outer A₀ base h₀ L m 5 s → PassesOwn (model PySem.Challenge.rw_zo0006_01.row.prog w) (wTop dp un gd sc L a ccd outer) (wEnv sc L a ccd) E →
    News h₀ L s.heap ((dl, W.listOf dv.toArray 0) :: rest) → (∀ p ∈ rest, p.1 ≠ dl) → IntsAre dv ds → ds.length = 4 → h₀.IsList l vs.toArray → IntsAre vs ns → ns.length ≤ 63 → m "script" = some (.ref l) → m "dealt" = some (.ref dl) →
    (∀ (h' : Heap) (tk' : Nat) (dv' : List Value) (ds' : List Int) (up un : Option Value), Fr h₀ L h' (fun z => if z = ("number" : Str) then un else if z = ("place" : Str) then up else m z) → News h₀ L h' ((dl, W.listOf dv'.toArray 0) :: rest) → IntsAre dv' ds' → ds'.length = 4 → Q .next { s with heap := h', toks := tk' }) →
      wpAny (model PySem.Challenge.rw_zo0006_01.row.prog w) (wTop dp un gd sc L a ccd outer) (exec st (wEnv sc L a ccd)) Q E s := by
  k_fill
  w_top off
  intro w loose mean mg mb dp un gd a ccd outer A₀ base h₀ L m s Q E l dl vs dv ns ds rest sc hsc st hst S hE N hoff hds hd4 hl hns hlen hms hmd hret
  conv at hsc => rhs; whnf
  conv at hst => rhs; whnf
  subst hsc
  subst hst
  obtain ⟨hB, hF, hK, hT, hk, hdp, hun⟩ := S
  refine For_C hF ?_ (by intro _; rfl)
  k_steps
  rename IntsAre _ (List.take 60 ns) => hI
  rename News h₀ _ _ _ => N3
  rename Fr h₀ _ _ _ => F3
  obtain ⟨sl, rfl⟩ := fst_addr' N3
  unfold Hold
  rename _ ∧ AllLt _ _ => l1
  have hsl : ∀ p ∈ (dl, W.listOf dv.toArray 0) :: rest, p.1 ≠ sl := off_cons (Nat.ne_of_lt l1.1) fun p hp => Nat.ne_of_lt (allLt_at l1.2 p hp)
  clear l1
  rename List Value => ws
  refine enumG (hE := hE) (its := ws.toArray) rfl (by rfl) (by rfl) (by rfl) F3 N3 (fun i m' nw => Hold (∃ (dv : List Value) (ds : List Int) (up un : Option Value), nw = (sl, W.listOf ws.toArray 0) :: (dl, W.listOf dv.toArray 0) :: rest ∧ IntsAre dv ds ∧ ds.length = 4 ∧
    m' = fun z => if z = ("number" : Str) then un else if z = ("place" : Str) then up else m z)) ?_ ?_ ?_ ?_
  · rintro i m nw ⟨_, _, _, _, rfl, _⟩
    exact .inr ⟨_, .head _, rfl, _, rfl⟩
  · exact ⟨dv, ds, m ("place" : Str), m ("number" : Str), rfl, hds, hd4, (if_self2 m _ _).symm⟩
  · intro i v ti m₁ nw h tk e it oE oI hv hJ hoffI hne F4 N4
    refine ex4 hJ fun dv ds up un hq => ?_
    have qb0 := hq.1
    have hds := hq.2.1
    have hd4 := hq.2.2.1
    have qb3 := hq.2.2.2
    clear hq hJ
    subst qb0
    subst qb3
    clear F3 N3
    obtain ⟨k, tk2, rfl⟩ := get_ints hI (by simpa using hv)
    have hn2 := (hoffI (dl, W.listOf dv.toArray 0) (.tail _ (.head _)))
    have hd1 : (@Ne Nat e dl) := Ne.symm hn2.1
    have hd2 : (@Ne Nat it dl) := Ne.symm hn2.2
    have hd3 : (@Ne Nat sl dl) := Ne.symm (hsl _ (.head _))
    have hm : Int.fmod (i : Int) 4 = ((i % 4 : Nat) : Int) := by
      rw [Int.fmod_eq_emod_of_nonneg _ (by decide)]; omega
    have hm4 : i % 4 < 4 := Nat.mod_lt _ (by decide)
    k_steps
    rename Fr h₀ _ _ _ => F5
    rename News h₀ _ _ _ => N5
    refine ksa_set F5 N5 (.tail hd1 (.tail hd2 (.tail hd3 (.head hoff)))) hds (by omega) (by omega) (by omega) ?_
    intro h6 F6 N6 hset hl6 _
    k_steps
    refine TurnO.intro F6 N6 (fun p hp => hp) (fun p hp => ?_) ⟨_, _, some (.int (i : Int) ti), some (.int k tk2), rfl, hset, hl6.trans hd4, ?_⟩
    · rcases List.mem_cons.mp hp with rfl | hp
      · exact hoffI _ (.head _)
      · rcases List.mem_cons.mp hp with rfl | hp
        · exact hn2
        · exact hoffI p (.tail _ (.tail _ hp))
    · exact if_over2 m _ _
  · intro h' tk' m' nw F4 N4 hJ
    refine ex4 hJ fun dv ds up un hq => ?_
    have qb0 := hq.1
    have hds := hq.2.1
    have hd4 := hq.2.2.1
    have qb3 := hq.2.2.2
    clear hq hJ
    subst qb0
    subst qb3
    refine wpAny_execs_nil ?_
    exact hret h' tk' dv ds up un F4 (fun p hp => N4 p (.tail _ hp)) hds hd4

theorem sym_set {U : Nat → Nat → Int} (hs : ∀ p q, U p q = U q p) (r c : Nat) (x : Int) : ∀ p q, (fun p q => if p = c then (if q = r then x else (fun p q => if p = r then (if q = c then x else U p q) else U p q) p q) else (fun p q => if p = r then (if q = c then x else U p q) else U p q) p q) p q =
    (fun p q => if p = c then (if q = r then x else (fun p q => if p = r then (if q = c then x else U p q) else U p q) p q) else (fun p q => if p = r then (if q = c then x else U p q) else U p q) p q) q p := by
  intro p q
  have := hs p q
  dsimp only
  repeat' split
  all_goals first | rfl | assumption | (exfalso; omega)
theorem rng_set {U : Nat → Nat → Int} (hU : ∀ p q, 0 ≤ U p q ∧ U p q ≤ 2) (r c : Nat) {x : Int} (hx : 0 ≤ x ∧ x ≤ 2) : ∀ p q, 0 ≤ (fun p q => if p = r then (if q = c then x else U p q) else U p q) p q ∧ (fun p q => if p = r then (if q = c then x else U p q) else U p q) p q ≤ 2 := by
  intro p q
  have := hU p q
  dsimp only
  repeat' split
  all_goals assumption
theorem fmod3 (x : Int) : 0 ≤ Int.fmod x 3 ∧ Int.fmod x 3 ≤ 2 := by
  rw [Int.fmod_eq_emod_of_nonneg _ (by decide)]; omega
theorem at_ref' {ra : Nat → Addr} {k : Int} {r : Nat} (hk : k = (r : Int)) (h : r < 4) : [Value.ref (ra 0), Value.ref (ra 1), Value.ref (ra 2), Value.ref (ra 3)][k.toNat]? = some (.ref (ra r)) := by
  subst hk; exact at_ref h
local macro_rules
  | `(tactic| walk_at "binaryOp FloorDiv int int") => `(tactic| (k_dflt (refine floordiv_int (by assumption) ?_ (.inl (by (rename ∀ _, Builtin.divisionGoesByPylong _ _ = false => hz); exact hz _)))))
  | `(tactic| walk_at "binaryOp Mod int int") => `(tactic| k_dflt (refine mod_int' (by decide) ?_))
  | `(tactic| walk_at $s:str) => kP s [("setItem ref int", kH), ("binaryOp Pow int int", kI 1 (kA ``pow3_is)), ("subscriptTail", kA ``item_ownA)]
theorem seg_w3 : ∀ (w : World) (loose : List Str) (mean : ExcName → Option Value) (mg mb : Str → Option Value) (dp un : Nat) (gd : Option (List Code)) (a : Addr) (ccd : Value) (outer : List Env) (A₀ : Around) (base h₀ : Heap) (L : Addr) (m : Str → Option Value) (s : Shared) (Q : Flow → Shared → Prop) (E : Value → Shared → Prop)
    (wl dl : Addr) (dv : List Value) (ds : List Int) (ra : Nat → Addr) (V : Nat → List Value) (rest : List (Addr × Obj)) (sc : Scope) (hsc : sc = wiresSc) (st : Stmt) (hst : st = nthS (bodyOf wiresDef) 3),
    Site w (hd.heap_39 w.params) loose mean mg mb dp un sc outer A₀ base h₀ L m 5 s → PassesOwn (model PySem.Challenge.rw_zo0006_01.row.prog w) (wTop dp un gd sc L a ccd outer) (wEnv sc L a ccd) E →
    News h₀ L s.heap ((ra 0, lstN (V 0) 0) :: (ra 1, lstN (V 1) 0) :: (ra 2, lstN (V 2) 0) :: (ra 3, lstN (V 3) 0) :: (wl, lstN [.ref (ra 0), .ref (ra 1), .ref (ra 2), .ref (ra 3)] 0) :: (dl, W.listOf dv.toArray 0) :: rest) → (∀ i j, i < 4 → j < 4 → i ≠ j → ra i ≠ ra j) → (∀ p ∈ (wl, lstN [.ref (ra 0), .ref (ra 1), .ref (ra 2), .ref (ra 3)] 0) :: (dl, W.listOf dv.toArray 0) :: rest, ∀ i, i < 4 → p.1 ≠ ra i) → mat4 (fun _ _ => 0) V → IntsAre dv ds → ds.length = 4 → m "wires" = some (.ref wl) → m "dealt" = some (.ref dl) →
    (∀ (h' : Heap) (tk' : Nat) (V2 : Nat → List Value) (U : Nat → Nat → Int) (uw uc ur : Option Value), Fr h₀ L h' (fun z => if z = ("worth" : Str) then uw else if z = ("column" : Str) then uc else if z = ("row" : Str) then ur else m z) → News h₀ L h' ((ra 0, lstN (V2 0) 0) :: (ra 1, lstN (V2 1) 0) :: (ra 2, lstN (V2 2) 0) :: (ra 3, lstN (V2 3) 0) :: (wl, lstN [.ref (ra 0), .ref (ra 1), .ref (ra 2), .ref (ra 3)] 0) :: (dl, W.listOf dv.toArray 0) :: rest) → mat4 U V2 → (∀ p q, U p q = U q p) → (∀ p q, 0 ≤ U p q ∧ U p q ≤ 2) → Q .next { s with heap := h', toks := tk' }) →
      wpAny (model PySem.Challenge.rw_zo0006_01.row.prog w) (wTop dp un gd sc L a ccd outer) (exec st (wEnv sc L a ccd)) Q E s := by
  k_fill
  w_top off
  intro w loose mean mg mb dp un gd a ccd outer A₀ base h₀ L m s Q E wl dl dv ds ra V rest sc hsc st hst S hE N dis hoff hV0 hds hd4 hmw hmd hret
  conv at hsc => rhs; whnf
  conv at hst => rhs; whnf
  subst hsc
  subst hst
  obtain ⟨hB, hF, hK, hT, hk, hdp, hun⟩ := S
  refine For_invTF (hE := hE) hF ?_ (by intro _; rfl)
  k_steps
  unfold Hold
  rename IsRange _ _ _ _ _ _ _ _ => R3
  rename News h₀ _ _ _ => N3
  rename Fr h₀ _ _ _ => F3
  refine iter_rangeT (n := 4) (by rfl) R3 (by decide) (by rfl) F3 N3 (fun i m' nw => Hold (∃ (V : Nat → List Value) (U : Nat → Nat → Int) (uw uc ur : Option Value), nw = (ra 0, lstN (V 0) 0) :: (ra 1, lstN (V 1) 0) :: (ra 2, lstN (V 2) 0) :: (ra 3, lstN (V 3) 0) :: (wl, lstN [.ref (ra 0), .ref (ra 1), .ref (ra 2), .ref (ra 3)] 0) :: (dl, W.listOf dv.toArray 0) :: rest ∧ mat4 U V ∧ (∀ p q, U p q = U q p) ∧ (∀ p q, 0 ≤ U p q ∧ U p q ≤ 2) ∧ m' = fun z => if z = ("worth" : Str) then uw else if z = ("column" : Str) then uc else if z = ("row" : Str) then ur else m z)) ?_ ?_ ?_
  · exact ⟨V, _, _, _, _, rfl, hV0, fun _ _ => rfl, fun _ _ => by decide, (if_self3 m _ _ _).symm⟩
  · intro i tv m₁ nw s₁ I oI hi hJ hoffI F4 N4
    refine ex5 hJ fun V U uw uc ur hq => ?_
    have qb0 := hq.1
    have hV := hq.2.1
    have hs := hq.2.2.1
    have hU := hq.2.2.2.1
    have qb4 := hq.2.2.2.2
    clear hq hJ
    subst qb0
    subst qb4
    clear F3 N3 R3
    k_steps
    unfold Hold
    refine For_invTF (hE := hE) (by k_asm) ?_ (by intro _; rfl)
    k_steps
    unfold Hold
    rename IsRange _ _ _ _ _ _ _ _ => R5
    rename News h₀ _ _ _ => N5
    rename Fr h₀ _ _ _ => F5
    have hIr : ∀ r, r < 4 → I ≠ ra r := fun r hr => by
      have : r = 0 ∨ r = 1 ∨ r = 2 ∨ r = 3 := lt4 (by first | assumption | omega)
      rcases this with rfl | rfl | rfl | rfl
      · exact Ne.symm (hoffI _ (mem_at 0 rfl))
      · exact Ne.symm (hoffI _ (mem_at 1 rfl))
      · exact Ne.symm (hoffI _ (mem_at 2 rfl))
      · exact Ne.symm (hoffI _ (mem_at 3 rfl))
    have offI : ∀ (V : Nat → List Value), ∀ p ∈ (ra 0, lstN (V 0) 0) :: (ra 1, lstN (V 1) 0) :: (ra 2, lstN (V 2) 0) :: (ra 3, lstN (V 3) 0) :: (wl, lstN [.ref (ra 0), .ref (ra 1), .ref (ra 2), .ref (ra 3)] 0) :: (dl, W.listOf dv.toArray 0) :: rest, p.1 ≠ I := fun V => off_cons (Ne.symm (hIr 0 (by decide))) (off_cons (Ne.symm (hIr 1 (by decide))) (off_cons (Ne.symm (hIr 2 (by decide))) (off_cons (Ne.symm (hIr 3 (by decide))) (off_cons (hoffI _ (mem_at 4 rfl)) (off_cons (hoffI _ (mem_at 5 rfl)) (fun p hp => hoffI p (.tail _ (.tail _ (.tail _ (.tail _ (.tail _ (.tail _ hp))))))))))))
    refine iter_rangeT (n := 4 - i) (by rfl) R5 ?_ ?_ F5 N5 (fun j m' nw => Hold (∃ (V : Nat → List Value) (U : Nat → Nat → Int) (uw uc : Option Value), nw = (I, oI) :: (ra 0, lstN (V 0) 0) :: (ra 1, lstN (V 1) 0) :: (ra 2, lstN (V 2) 0) :: (ra 3, lstN (V 3) 0) :: (wl, lstN [.ref (ra 0), .ref (ra 1), .ref (ra 2), .ref (ra 3)] 0) :: (dl, W.listOf dv.toArray 0) :: rest ∧ mat4 U V ∧ (∀ p q, U p q = U q p) ∧ (∀ p q, 0 ≤ U p q ∧ U p q ≤ 2) ∧ m' = fun z => if z = ("worth" : Str) then uw else if z = ("column" : Str) then uc else if z = ("row" : Str) then some (.int (0 + (i : Int)) tv) else m z)) ?_ ?_ ?_
    · have : i = 0 ∨ i = 1 ∨ i = 2 ∨ i = 3 := lt4 (by first | assumption | omega)
      rcases this with rfl | rfl | rfl | rfl <;> decide
    · have : i = 0 ∨ i = 1 ∨ i = 2 ∨ i = 3 := lt4 (by first | assumption | omega)
      rcases this with rfl | rfl | rfl | rfl <;> rfl
    · exact ⟨V, U, uw, uc, rfl, hV, hs, hU, over_third m (by decide) (by decide)⟩
    · intro j tv2 m₂ nw2 s₂ I2 oI2 hj hJ2 hoff2 F6 N6
      refine ex4 hJ2 fun V U uw uc hq => ?_
      have qb0 := hq.1
      have hV := hq.2.1
      have hs := hq.2.2.1
      have hU := hq.2.2.2.1
      have qb4 := hq.2.2.2.2
      clear hq hJ2
      subst qb0
      subst qb4
      clear F5 N5 R5 F4 N4
      have hI2r : ∀ r, r < 4 → I2 ≠ ra r := fun r hr => by
        have : r = 0 ∨ r = 1 ∨ r = 2 ∨ r = 3 := lt4 (by first | assumption | omega)
        rcases this with rfl | rfl | rfl | rfl
        · exact Ne.symm (hoff2 _ (mem_at 1 rfl))
        · exact Ne.symm (hoff2 _ (mem_at 2 rfl))
        · exact Ne.symm (hoff2 _ (mem_at 3 rfl))
        · exact Ne.symm (hoff2 _ (mem_at 4 rfl))
      have offI2 : ∀ (V : Nat → List Value), ∀ p ∈ (I, oI) :: (ra 0, lstN (V 0) 0) :: (ra 1, lstN (V 1) 0) :: (ra 2, lstN (V 2) 0) :: (ra 3, lstN (V 3) 0) :: (wl, lstN [.ref (ra 0), .ref (ra 1), .ref (ra 2), .ref (ra 3)] 0) :: (dl, W.listOf dv.toArray 0) :: rest, p.1 ≠ I2 := fun V => off_cons (hoff2 _ (mem_at 0 rfl)) (off_cons (Ne.symm (hI2r 0 (by decide))) (off_cons (Ne.symm (hI2r 1 (by decide))) (off_cons (Ne.symm (hI2r 2 (by decide))) (off_cons (Ne.symm (hI2r 3 (by decide))) (off_cons (hoff2 _ (mem_at 5 rfl)) (off_cons (hoff2 _ (mem_at 6 rfl)) (fun p hp => hoff2 p (.tail _ (.tail _ (.tail _ (.tail _ (.tail _ (.tail _ (.tail _ hp))))))))))))))
      have hc4 : i + j < 4 := by omega
      have hbj : (0 + (i : Int) + (j : Int)) - (0 + (i : Int)) = ((j : Nat) : Int) := by omega
      have hj64 : j ≤ 64 := by omega
      have h3j : ((3 : Int) ^ j) ≠ 0 := Int.pow_ne_zero (by decide)
      have h27 : ((3 : Int) ^ j) ≤ 27 ∧ 1 ≤ ((3 : Int) ^ j) := by
        have : j = 0 ∨ j = 1 ∨ j = 2 ∨ j = 3 := lt4 (by first | assumption | omega)
        rcases this with rfl | rfl | rfl | rfl <;> decide
      have hpy : ∀ a, Builtin.divisionGoesByPylong a ((3 : Int) ^ j) = false := fun a => PyProof.noPylong_small (by omega)
      have e1 := at_ref' (ra := ra) (k := 0 + (i : Int)) (by omega) hi
      have e2 := at_ref' (ra := ra) (k := 0 + (i : Int) + (j : Int)) (by omega) hc4
      k_steps
      unfold Hold
      rename Fr h₀ _ _ _ => F7
      rename News h₀ _ _ _ => N7
      have N8 : News h₀ L _ ((ra 0, lstN (V 0) 0) :: (ra 1, lstN (V 1) 0) :: (ra 2, lstN (V 2) 0) :: (ra 3, lstN (V 3) 0) :: (I2, oI2) :: (I, oI) :: (wl, lstN [.ref (ra 0), .ref (ra 1), .ref (ra 2), .ref (ra 3)] 0) :: (dl, W.listOf dv.toArray 0) :: rest) := news_cons N7 (mem_at 2 rfl) (news_cons N7 (mem_at 3 rfl) (news_cons N7 (mem_at 4 rfl) (news_cons N7 (mem_at 5 rfl) (news_cons N7 (mem_at 0 rfl) (news_cons N7 (mem_at 1 rfl) (news_drop 6 N7))))))
      have offR : ∀ p ∈ (I2, oI2) :: (I, oI) :: (wl, lstN [.ref (ra 0), .ref (ra 1), .ref (ra 2), .ref (ra 3)] 0) :: (dl, W.listOf dv.toArray 0) :: rest, ∀ i, i < 4 → p.1 ≠ ra i := all_cons hI2r (all_cons hIr hoff)
      clear N7
      refine set_row F7 N8 dis offR hV hi hc4 (by omega) ?_
      clear F7 N8
      intro h9 V9 F9 N9 hV9
      k_steps
      unfold Hold
      rename Fr h₀ _ _ _ => F10
      rename News h₀ _ _ _ => N10
      refine set_row F10 N10 dis offR hV9 hc4 hi (by omega) ?_
      clear F10 N10
      intro h11 V11 F11 N11 hV11
      k_steps
      rename Fr h₀ _ _ _ => F12
      rename News h₀ _ _ _ => N12
      have N13 : News h₀ L _ ((I2, oI2) :: (I, oI) :: (ra 0, lstN (V11 0) 0) :: (ra 1, lstN (V11 1) 0) :: (ra 2, lstN (V11 2) 0) :: (ra 3, lstN (V11 3) 0) :: (wl, lstN [.ref (ra 0), .ref (ra 1), .ref (ra 2), .ref (ra 3)] 0) :: (dl, W.listOf dv.toArray 0) :: rest) := news_cons N12 (mem_at 4 rfl) (news_cons N12 (mem_at 5 rfl) (news_cons N12 (mem_at 0 rfl) (news_cons N12 (mem_at 1 rfl) (news_cons N12 (mem_at 2 rfl) (news_cons N12 (mem_at 3 rfl) (news_drop 6 N12))))))
      exact TurnE.intro F12 N13 (fun p hp => hp) (offI2 V11) ⟨V11, _, _, _, rfl, hV11, sym_set hs i (i + j) _, rng_set (rng_set hU i (i + j) (fmod3 _)) (i + j) i (fmod3 _), over_two _ (by decide)⟩
    · intro h' tk' m' nw F6 N6 hJ2
      refine ex4 hJ2 fun V U uw uc hq => ?_
      have qb0 := hq.1
      have hV := hq.2.1
      have hs := hq.2.2.1
      have hU := hq.2.2.2.1
      have qb4 := hq.2.2.2.2
      clear hq hJ2
      subst qb0
      subst qb4
      clear F5 N5 R5 F4 N4
      k_steps
      exact TurnE.intro F6 N6 (fun p hp => hp) (offI V) ⟨V, U, uw, uc, _, rfl, hV, hs, hU, rfl⟩
  · intro h' tk' m' nw F4 N4 hJ
    refine ex5 hJ fun V U uw uc ur hq => ?_
    have qb0 := hq.1
    have hV := hq.2.1
    have hs := hq.2.2.1
    have hU := hq.2.2.2.1
    have qb4 := hq.2.2.2.2
    clear hq hJ
    subst qb0
    subst qb4
    exact hret h' tk' V U uw uc ur F4 N4 hV hs hU

end
section
local macro_rules | `(tactic| walk_at $s:str) => kP s [("exec For Tuple Call", kH)]
theorem c_wires : ∀ (w : World) (loose : List Str) (mean : ExcName → Option Value) (mg mb : Str → Option Value) (dp un : Nat) (gd : Option (List Code)) (cn : Str) (cs : Scope) (a : Addr) (ccd : Value) (cl : List (Str × Addr)) (outer : List Env) (A₀ : Around) (base h₀ : Heap) (L : Addr) (m : Str → Option Value) (s : Shared) (Q E : Value → Shared → Prop) (l : Addr) (vs : List Value) (ns : List Int),
    Site w (hd.heap_39 w.params) loose mean mg mb dp un cs outer A₀ base h₀ L m 20 s → s.heap.IsList l vs.toArray → IntsAre vs ns → ns.length ≤ 63 →
    (∀ (h' : Heap) (tk' : Nat) (T lw r0 r1 r2 r3 : Addr) (oT ow o0 o1 o2 o3 : Obj) (W : Nat → Nat → Int) (whole : Int), (∀ b o, s.heap.get? b = some o → h'.get? b = some o) →
      (∀ i j, W i j = W j i) → (∀ i j, 0 ≤ W i j ∧ W i j ≤ 2) → (oT.cls = .type "tuple" ∧ oT.slots = #[] ∧ oT.dict = none ∧ ∃ tw n, oT.data = .seq #[.ref lw, .int whole tw] n) → (∃ n, ow = lstN [.ref r0, .ref r1, .ref r2, .ref r3] n) → RowIs (W 0) o0 → RowIs (W 1) o1 → RowIs (W 2) o2 → RowIs (W 3) o3 →
      (∀ p ∈ [(T, oT), (lw, ow), (r0, o0), (r1, o1), (r2, o2), (r3, o3)], h'.get? p.1 = some p.2 ∧ s.heap.get? p.1 = none) →
      Q (.ref T) { s with heap := h', toks := tk' }) →
      wpAny (model PySem.Challenge.rw_zo0006_01.row.prog w) (ktrTop dp un gd cn cs L a ccd cl outer) (call (.ref 57) [.ref l]) Q E s := by
  k_fill
  w_top off
  intro w loose mean mg mb dp un gd cn cs a ccd cl outer A₀ base h₀ L m s Q E l vs ns S hl hns hlen hret
  obtain ⟨hB, hF, hK, hT, hk, hdp, hun⟩ := S
  refine wpAny_call (enter0 (binds := [("script", .ref l)]) hB hF hK hT rfl rfl hk (by k_is) (by k_is) (by ktr_room) (BindsTo.of_eq rfl) (locs rfl) ?_ rfl rfl rfl (by decide))
  intro L' h₁ F1 N1 B1 X1 T1 st1
  dsimp only
  k_fold
  k_steps
  unfold Hold
  rename Fr s.heap _ _ _ => F2
  rename News s.heap _ _ _ => N2
  obtain ⟨dl, rfl⟩ := fst_addr' N2
  refine seg_w1 w _ _ _ _ _ _ _ _ _ _ _ _ _ _ _ _ _ _ l dl vs _ ns [4, 4, 4, 2] [] _ rfl _ rfl ⟨B1, F2, X1, T1, rfl, by show dp + 1 + 5 < _; exact room1 (by assumption) (by decide), by show un + 3 + 10 * 5 < _; exact room3 (by assumption) (by decide)⟩ (by passes_own) N2 (fun _ h => nomatch h) (.cons _ _ (.cons _ _ (.cons _ _ (.cons _ _ .nil)))) rfl hl hns hlen rfl rfl ?_
  clear F2 N2
  intro h3 tk3 dv ds up un' F3 N3 hds hd4
  k_steps
  unfold Hold
  rename_i r0 _ l0 r1 _ l1 r2 _ l2 r3 _ l3 wl _ l4 _ F4 N4
  obtain ⟨V, N5, hV⟩ := rows_pack (news_cons N4 (mem_at 4 rfl) (news_cons N4 (mem_at 3 rfl) (news_cons N4 (mem_at 2 rfl) (news_cons N4 (mem_at 1 rfl) (news_cons N4 (mem_at 0 rfl) (news_cons N4 (mem_at 5 rfl) (news_drop 6 N4)))))))
  clear N4
  have d10 : @Ne Nat r1 r0 := Nat.ne_of_gt l1.1
  have d20 : @Ne Nat r2 r0 := Nat.ne_of_gt l2.2.1
  have d21 : @Ne Nat r2 r1 := Nat.ne_of_gt l2.1
  have d30 : @Ne Nat r3 r0 := Nat.ne_of_gt l3.2.2.1
  have d31 : @Ne Nat r3 r1 := Nat.ne_of_gt l3.2.1
  have d32 : @Ne Nat r3 r2 := Nat.ne_of_gt l3.1
  have w0 : @Ne Nat wl r0 := Nat.ne_of_gt l4.2.2.2.1
  have w1 : @Ne Nat wl r1 := Nat.ne_of_gt l4.2.2.1
  have w2 : @Ne Nat wl r2 := Nat.ne_of_gt l4.2.1
  have w3 : @Ne Nat wl r3 := Nat.ne_of_gt l4.1
  have e0 : @Ne Nat dl r0 := Nat.ne_of_lt l0
  have e1 : @Ne Nat dl r1 := Nat.ne_of_lt l1.2
  have e2 : @Ne Nat dl r2 := Nat.ne_of_lt l2.2.2
  have e3 : @Ne Nat dl r3 := Nat.ne_of_lt l3.2.2.2
  clear l0 l1 l2 l3 l4
  obtain ⟨ra, rfl, rfl, rfl, rfl⟩ : ∃ ra : Nat → Addr, ra 0 = r0 ∧ ra 1 = r1 ∧ ra 2 = r2 ∧ ra 3 = r3 := ⟨fun i => [r0, r1, r2, r3].getD i 0, rfl, rfl, rfl, rfl⟩
  refine seg_w3 w _ _ _ _ _ _ _ _ _ _ _ _ _ _ _ _ _ _ wl dl dv ds ra V [] _ rfl _ rfl ⟨B1, F4, X1, T1, rfl, by show dp + 1 + 5 < _; exact room1 (by assumption) (by decide), by show un + 3 + 10 * 5 < _; exact room3 (by assumption) (by decide)⟩ (by passes_own) N5 ?_ ?_ hV hds hd4 rfl rfl ?_
  · intro i j hi hj hij
    have hi' : i = 0 ∨ i = 1 ∨ i = 2 ∨ i = 3 := lt4 (by first | assumption | omega)
    have hj' : j = 0 ∨ j = 1 ∨ j = 2 ∨ j = 3 := lt4 (by first | assumption | omega)
    rcases hi' with rfl | rfl | rfl | rfl <;> rcases hj' with rfl | rfl | rfl | rfl <;> first | exact absurd rfl hij | assumption | exact ne_symm' (by assumption)
  · refine all_cons (fun i hi => ?_) (all_cons (fun i hi => ?_) fun _ h => nomatch h)
    all_goals
      have : i = 0 ∨ i = 1 ∨ i = 2 ∨ i = 3 := lt4 (by first | assumption | omega)
      rcases this with rfl | rfl | rfl | rfl <;> assumption
  clear F4 N5 d10 d20 d21 d30 d31 d32 w0 w1 w2 w3 e0 e1 e2 e3
  intro h6 tk6 V2 U uw uc ur F6 N6 hV2 hU1 hU2
  k_steps
  rename Fr s.heap _ _ _ => F9
  rename News s.heap _ _ _ => N9
  have g : ∀ k p, ([(_, _), (ra 0, lstN (V2 0) 0), (ra 1, lstN (V2 1) 0), (ra 2, lstN (V2 2) 0), (ra 3, lstN (V2 3) 0), (wl, lstN [.ref (ra 0), .ref (ra 1), .ref (ra 2), .ref (ra 3)] 0), (dl, W.listOf dv.toArray 0)] : List (Addr × Obj))[k]? = some p → _ := fun k p e => And.intro (N9 p (mem_at k e)).1 (N9 p (mem_at k e)).2.2
  exact hret _ _ _ _ _ _ _ _ _ _ _ _ _ _ U _ F9.keep hU1 hU2 (by exact ⟨rfl, rfl, rfl, _, _, rfl⟩) (by exact ⟨_, rfl⟩) (row_pack hV2 (by decide)) (row_pack hV2 (by decide)) (row_pack hV2 (by decide)) (row_pack hV2 (by decide)) (all_cons (g 0 _ rfl) (all_cons (g 5 _ rfl) (all_cons (g 1 _ rfl) (all_cons (g 2 _ rfl) (all_cons (g 3 _ rfl) (all_cons (g 4 _ rfl) fun _ h => nomatch h))))))
end

/-! Law0a -/
section
theorem news_addL {h₀ h h' : Heap} {L : Addr} {m : Str → Option Value} {news G : List (Addr × Obj)} (F : Fr h₀ L h m) (N : News h₀ L h news) (up : ∀ b o, h.get? b = some o → h'.get? b = some o) (hG : ∀ p ∈ G, h'.get? p.1 = some p.2 ∧ h.get? p.1 = none) :
    Fr h₀ L h' m ∧ News h₀ L h' (G ++ news) := by
  obtain ⟨oL, es, ep, hL, r⟩ := F.ns
  refine ⟨F.keeps up, fun p hp => ?_⟩
  rcases List.mem_append.mp hp with hp | hp
  · refine ⟨(hG p hp).1, fun e => ?_, ?_⟩
    · have := (hG p hp).2; rw [e, hL] at this; cases this
    · cases q : h₀.get? p.1 with
      | none => rfl
      | some o => have := (hG p hp).2; rw [F.keep _ _ q] at this; cases this
  · exact ⟨up _ _ (N p hp).1, (N p hp).2⟩
section
variable {M : Model} {A : Around} {E : Value → Shared → Prop} {s : Shared} {h₀ : Heap} {L a : Addr} {m : Str → Option Value} {cn : Str} {cs : Scope} {ccd : Value} {cl : List (Str × Addr)}
  {x : Str} {v : Value} {Q : Unit → Shared → Prop} {rest : List (Addr × Obj)} {c : Addr} {o : Obj} {v₀ : Option Value}
theorem storeC_first (F : Fr h₀ L s.heap m) (N : News h₀ L s.heap ((c, o) :: rest)) (hc : cl.lookup x = some c) (hd : o.data = .cell v₀) (hoff : ∀ q ∈ rest, q.1 ≠ c)
    (h : ∀ h' o', Fr h₀ L h' m → News h₀ L h' ((c, o') :: rest) → o'.data = .cell (some v) → Q () { s with heap := h' })
    (hk : cs.kind = .function := by rfl) (hx : (envX cn cs L a ccd cl).kindOf x = some .cell := by rfl) : wpAny M A (storeName (envX cn cs L a ccd cl) x v) Q E s := storeX_C F N hc (UpdF.head hoff) hd h hk hx
theorem cell_ne {h : Heap} {L : Addr} {c : Addr} {o : Obj} {news : List (Addr × Obj)} {v : Option Value} {q : Addr × Obj} (N : News h₀ L h news) (hc : (c, o) ∈ news) (hq : q ∈ news) (hd : o.data = .cell v) (hn : ∀ u, q.2.data ≠ .cell u) : q.1 ≠ c := fun e => by
  have h1 := (N q hq).1
  have h2 := (N _ hc).1
  rw [e] at h1
  have h3 : h.get? c = some o := h2
  rw [h3] at h1
  exact hn v ((Option.some.inj h1) ▸ hd)
end
end
end
end Mine

namespace Mine
section
local macro_rules | `(tactic| walk_at $s:str) => kP s [("eval ListComp", kL ``LCt.ListComp_T), ("CompSrcT", kI 1 (kN ``srcT 4)), ("binaryOp Pow int int", kI 1 (kA ``pow2_is)), ("call ref", kH), ("pyIter ref", kH), ("subscriptTail", kA ``item_ownA)]

/-! Seg0 -/
section
theorem bit_eq (i j : Nat) : (Int.fmod (Int.fdiv (0 + (i : Int)) (2 ^ j)) 2 = 1) ↔ i / 2 ^ j % 2 = 1 := by
  have h1 : Int.fdiv (0 + (i : Int)) (2 ^ j) = ((i / 2 ^ j : Nat) : Int) := by
    rw [Int.zero_add, Int.fdiv_eq_ediv_of_nonneg _ (Int.le_of_lt (pow_pos' j))]
    simp
  rw [h1, Int.fmod_eq_emod_of_nonneg _ (by decide)]
  omega
theorem mems_eq (i : Nat) : ((List.range 4).filter fun j => decide (Int.fmod (Int.fdiv (0 + (i : Int)) (2 ^ j)) 2 = 1)) = mems i := by
  unfold mems
  exact List.filter_congr fun j _ => decide_eq_decide.mpr (bit_eq i j)
local macro_rules | `(tactic| walk_at $s:str) => kP s [("storeName", kH)]
local macro_rules | `(tactic| walk_at $s:str) => kP s [("exec Assign cons ListComp", kW)]
theorem seg_members : ∀ (w : World) (loose : List Str) (mean : ExcName → Option Value) (mg mb : Str → Option Value) (dp un : Nat) (gd : Option (List Code)) (a : Addr) (ccd : Value) (outer : List Env) (A₀ : Around) (base h₀ : Heap) (L : Addr) (m : Str → Option Value) (s : Shared) (Q : Flow → Shared → Prop) (E : Value → Shared → Prop)
    (i : Nat) (oM oH : Obj) (cM : Option Value) (tc : Tok) (rest : List (Addr × Obj)) (sc : Scope) (hsc : sc = lawSc) (st : Stmt) (hst : st = nthS turnB 0),
    Site w (hd.heap_39 w.params) loose mean mg mb dp un sc outer A₀ base h₀ L m 60 s →
    News h₀ L s.heap ((L + 1 + 1 + 1 + 1, oM) :: (L + 1 + 1 + 1, oH) :: rest) → (∀ p ∈ (L + 1 + 1 + 1, oH) :: rest, p.1 ≠ L + 1 + 1 + 1 + 1) → oM.data = .cell cM → oH.data = .cell (some (.int (0 + (i : Int)) tc)) → i < 16 →
    (∀ (h' : Heap) (tk' : Nat) (Dm : Addr) (my : List Value) (nm : Nat) (oM' : Obj), Fr h₀ L h' m → News h₀ L h' ((L + 1 + 1 + 1 + 1, oM') :: (Dm, lstN my nm) :: (L + 1 + 1 + 1, oH) :: rest) → oM'.data = .cell (some (.ref Dm)) → MemsAre i my →
      (∀ p ∈ (L + 1 + 1 + 1 + 1, oM) :: (L + 1 + 1 + 1, oH) :: rest, p.1 ≠ Dm) → Q .next { s with heap := h', toks := tk' }) →
      wpAny (model PySem.Challenge.rw_zo0006_01.row.prog w) (lawTop dp un gd sc L a ccd outer) (exec st (lawEnv sc L a ccd)) Q E s := by
  k_fill
  w_top off
  intro w loose mean mg mb dp un gd a ccd outer A₀ base h₀ L m s Q E i oM oH cM tc rest sc hsc st hst S N hoff hoM hoH hi hret
  conv at hsc => rhs; whnf
  conv at hst => rhs; whnf
  subst hsc
  subst hst
  obtain ⟨hB, hF, hK, hT, hk, hdp, hun⟩ := S
  k_steps
  unfold Hold
  rename Fr h₀ _ _ _ => F16
  rename News h₀ _ _ _ => N16
  refine restT (fun j => decide (Int.fmod (Int.fdiv (0 + (i : Int)) (2 ^ j)) 2 = 1)) (fun j v => ∃ t, v = .int (j : Int) t) trivial ?_ ?_
  · intro j v I2 oI2 C oC D m₂ ys h9 tk9 E' hj hv hC hx F17 N17 off ne
    obtain ⟨t9, rfl⟩ := hv
    clear F16 N16
    have : j = 0 ∨ j = 1 ∨ j = 2 ∨ j = 3 := lt4 (by first | assumption | omega)
    rcases this with rfl | rfl | rfl | rfl
    all_goals
      k_steps
      all_goals
        first
        | exact ⟨_, _, rfl, F17, N17, _, by rw [Int.zero_add]⟩
        | exact ⟨_, _, rfl, F17, N17, trivial⟩
  intro my hmy Dm h17 tk17 F17 N17 o17
  clear F16 N16
  dsimp only
  rw [mems_eq] at hmy
  k_steps
  unfold Hold
  have o18 := off1_all o17
  have h45 : (L + 1 + 1 + 1 + 1 : Nat) ≠ Dm := o18 (L + 1 + 1 + 1 + 1, oM) (by simp)
  refine storeC_first F17 (c := L + 1 + 1 + 1 + 1) (o := oM) (rest := (Dm, LCg.lst my) :: (L + 1 + 1 + 1, oH) :: rest) (news_cons N17 (mem_at 1 rfl) (news_cons N17 (mem_at 0 rfl) (news_cons N17 (mem_at 2 rfl) (news_drop 3 N17)))) rfl hoM ?_ ?_ rfl rfl
  · intro q hq
    rcases List.mem_cons.mp hq with rfl | hq
    · exact Ne.symm h45
    · exact hoff q hq
  intro h' oM' F19 N19 dM19
  k_steps
  exact hret h' _ Dm my _ oM' F19 N19 dM19 hmy o18

local macro_rules | `(tactic| walk_at $s:str) => kP s [("storeName", kX), ("call builtin:str.split", kH)]
theorem seg_words : ∀ (w : World) (loose : List Str) (mean : ExcName → Option Value) (mg mb : Str → Option Value) (dp un : Nat) (gd : Option (List Code)) (a : Addr) (ccd : Value) (outer : List Env) (A₀ : Around) (base h₀ : Heap) (L : Addr) (m : Str → Option Value) (s : Shared) (Q : Flow → Shared → Prop) (E : Value → Shared → Prop)
    (i f : Nat) (oD oH : Obj) (tc tf : Tok) (rest : List (Addr × Obj)) (sc : Scope) (hsc : sc = lawSc) (st : Stmt) (hst : st = nthS turnB 1),
    Site w (hd.heap_39 w.params) loose mean mg mb dp un sc outer A₀ base h₀ L m 60 s →
    News h₀ L s.heap ((L + 1 + 1 + 1, oH) :: (L + 1 + 1, oD) :: rest) → oD.data = .cell (some (.int (f : Int) tf)) → oH.data = .cell (some (.int (0 + (i : Int)) tc)) → i < 16 → f ≤ 6 →
    (∀ (h' : Heap) (tk' : Nat) (Dw : Addr) (wv : List Value) (nw : Nat), Fr h₀ L h' (fun z => if z = ("words" : Str) then some (.ref Dw) else m z) → News h₀ L h' ((Dw, lstN wv nw) :: (L + 1 + 1 + 1, oH) :: (L + 1 + 1, oD) :: rest) → StrsAre wv (wordsP f i) →
      (∀ p ∈ (L + 1 + 1 + 1, oH) :: (L + 1 + 1, oD) :: rest, p.1 ≠ Dw) → Q .next { s with heap := h', toks := tk' }) →
      wpAny (model PySem.Challenge.rw_zo0006_01.row.prog w) (lawTop dp un gd sc L a ccd outer) (exec st (lawEnv sc L a ccd)) Q E s := by
  k_fill
  w_top off
  intro w loose mean mg mb dp un gd a ccd outer A₀ base h₀ L m s Q E i f oD oH tc tf rest sc hsc st hst S N hoD hoH hi hf hret
  conv at hsc => rhs; whnf
  conv at hst => rhs; whnf
  subst hsc
  subst hst
  obtain ⟨hB, hF, hK, hT, hk, hdp, hun⟩ := S
  k_steps
  unfold Hold
  have hi7 := wordsP_fits ⟨f, by omega⟩ ⟨i, hi⟩
  refine c_pretty _ _ _ _ _ _ _ _ _ _ _ _ _ _ _ _ _ _ _ _ _ _ _ _ ⟨hB, hF, hK, hT, rfl, room0 (by assumption) (by decide), room0 (by assumption) (by decide)⟩ hi7.1 hi7.2 ?_
  clear hi7
  intro h20 tk20 t20 up20
  have F20 := hF.keeps up20
  have N20 := N.grown up20
  clear hF N up20
  k_steps
  unfold Hold
  refine KSpl.split1 F20 N20 (by decide) ?_ (Nat.le_trans (Nat.add_le_add_right (wordsP_len ⟨f, by omega⟩ ⟨i, hi⟩).1 2) (by rw [sizeLine_eq]; decide))
  intro Dw lw2 h22 tk22 ew hws F22 N22 lo22
  rw [show Txt.split (Txt.join (Str.ofString ", ") (wordsW ((0 + (i : Int)) * 2 ^ f))) (Str.ofString ", ") = wordsP f i from wordsP_split ⟨f, by omega⟩ ⟨i, hi⟩] at ew
  rw [ew] at hws
  generalize strValues lw2 = wv at hws N22
  clear F20 N20 ew
  k_steps
  rename Fr h₀ _ _ _ => F9
  rename News h₀ _ _ _ => N9
  exact hret _ _ Dw wv 0 F9 N9 hws (fun p hp => Nat.ne_of_lt (lo22 p hp))

local macro_rules | `(tactic| walk_at $s:str) => kP s [("eval Name", kA ``nameX_LA), ("storeName", kH)]
theorem seg_table : ∀ (w : World) (loose : List Str) (mean : ExcName → Option Value) (mg mb : Str → Option Value) (dp un : Nat) (gd : Option (List Code)) (a : Addr) (ccd : Value) (outer : List Env) (A₀ : Around) (base h₀ : Heap) (L : Addr) (m : Str → Option Value) (s : Shared) (Q : Flow → Shared → Prop) (E : Value → Shared → Prop)
    (i f : Nat) (Dw dc : Addr) (wv : List Value) (nw : Nat) (oT odc : Obj) (cT : Option Value) (kc : List (Str × Value)) (W : Nat → Nat → Int) (rest : List (Addr × Obj)) (sc : Scope) (hsc : sc = lawSc) (st : Stmt) (hst : st = nthS turnB 2),
    Site w (hd.heap_39 w.params) loose mean mg mb dp un sc outer A₀ base h₀ L m 60 s →
    News h₀ L s.heap ((L + 1 + 1 + 1 + 1 + 1, oT) :: (Dw, lstN wv nw) :: (dc, odc) :: rest) → (∀ p ∈ (Dw, lstN wv nw) :: (dc, odc) :: rest, p.1 ≠ L + 1 + 1 + 1 + 1 + 1) → oT.data = .cell cT → m "words" = some (.ref Dw) → m "calls" = some (.ref dc) → i < 16 → f ≤ 6 → StrsAre wv (wordsP f i) →
    (dc == sysModules) = false → odc.IsDictOf (strKind PySem.Challenge.rw_zo0006_01.row.prog w) kc →
    (∀ k v, valueAt kc k = some v → ∃ D oD kd, v = .ref D ∧ (D == sysModules) = false ∧ (D, oD) ∈ rest ∧ oD.IsDictOf (strKind PySem.Challenge.rw_zo0006_01.row.prog w) kd ∧ IntKvs kd (rowsF W f k)) → (∀ k, valueAt kc k = none → rowsF W f k = []) →
    (∀ (h' : Heap) (tk' : Nat) (dt : Addr) (odt oT' : Obj) (kvt : List (Str × Value)), Fr h₀ L h' m → News h₀ L h' ((L + 1 + 1 + 1 + 1 + 1, oT') :: (dt, odt) :: (Dw, lstN wv nw) :: (dc, odc) :: rest) → oT'.data = .cell (some (.ref dt)) → (dt == sysModules) = false →
      odt.IsDictOf (strKind PySem.Challenge.rw_zo0006_01.row.prog w) kvt → IntKvs kvt (tabP W f i) → 
      (∀ p ∈ (L + 1 + 1 + 1 + 1 + 1, oT) :: (Dw, lstN wv nw) :: (dc, odc) :: rest, p.1 ≠ dt) → Q .next { s with heap := h', toks := tk' }) →
      wpAny (model PySem.Challenge.rw_zo0006_01.row.prog w) (lawTop dp un gd sc L a ccd outer) (exec st (lawEnv sc L a ccd)) Q E s := by
  k_fill
  w_top off
  intro w loose mean mg mb dp un gd a ccd outer A₀ base h₀ L m s Q E i f Dw dc wv nw oT odc cT kc W rest sc hsc st hst S N hoff hoT hmw hmc hi hf hws lodc hdc hrows hnone hret
  conv at hsc => rhs; whnf
  conv at hst => rhs; whnf
  subst hsc
  subst hst
  obtain ⟨hB, hF, hK, hT, hk, hdp, hun⟩ := S
  k_steps
  unfold Hold
  refine c_table _ _ _ _ _ _ _ _ _ _ _ _ _ _ _ _ _ _ _ _ _ _ Dw dc wv (wordsP f i) kc (rowsF W f) ⟨hB, hF, hK, hT, rfl, room0 (by assumption) (by decide), room0 (by assumption) (by decide)⟩ ⟨_, (N (Dw, lstN wv nw) (by simp)).1, rfl, _, rfl⟩ hws (Nat.lt_of_le_of_lt (wordsP_len ⟨f, by omega⟩ ⟨i, hi⟩).2 (by decide)) lodc (Heap.dictOf_iff.mpr ⟨odc, (N (dc, odc) (by simp)).1, hdc⟩) ?_ hnone (rowsF_len W f) ?_
  · intro k v e
    obtain ⟨D, oD, kd, e1, e2, e3, e4, e5⟩ := hrows k v e
    exact ⟨D, kd, e1, e2, Heap.dictOf_iff.mpr ⟨oD, (N (D, oD) (by simp [e3])).1, e4⟩, e5⟩
  intro h23 tk23 dt kvt up23 lot frt hdt itt
  obtain ⟨odt, hodt, ddt⟩ := Heap.dictOf_iff.mp hdt
  obtain ⟨F23, N23⟩ := news_addL (G := [(dt, odt)]) hF N up23 (fun p hp => by rw [List.mem_singleton.mp hp]; exact ⟨hodt, frt⟩)
  dsimp only [List.cons_append, List.nil_append] at N23
  have hfresh : ∀ p ∈ (L + 1 + 1 + 1 + 1 + 1, oT) :: (Dw, lstN wv nw) :: (dc, odc) :: rest, p.1 ≠ dt := fun p hp e => by
    have := (N p hp).1
    rw [e, frt] at this; cases this
  clear hF N up23 frt hdt hodt
  k_steps
  unfold Hold
  refine storeC_first F23 (c := L + 1 + 1 + 1 + 1 + 1) (o := oT) (rest := (dt, odt) :: (Dw, lstN wv nw) :: (dc, odc) :: rest) (news_cons N23 (mem_at 1 rfl) (news_cons N23 (mem_at 0 rfl) (news_cons N23 (mem_at 2 rfl) (news_cons N23 (mem_at 3 rfl) (news_drop 4 N23))))) rfl hoT ?_ ?_ rfl rfl
  · intro q hq
    rcases List.mem_cons.mp hq with rfl | hq
    · exact Ne.symm (hfresh (L + 1 + 1 + 1 + 1 + 1, oT) (by simp))
    · exact hoff q hq
  intro h' oT' F24 N24 dT24
  k_steps
  exact hret h' _ dt odt oT' kvt F24 N24 dT24 lot ddt itt hfresh
end

/-! Seg1 -/
section
local macro_rules | `(tactic| walk_at $s:str) => kP s [("eval Name", kA ``nameX_LA)]
section
variable {prog : Program} {w : World} {K : Type} [DecidableEq K] {knd : KeyKind prog w K} {A : Around} {E : Value → Shared → Prop} {s : Shared} {h₀ : Heap} {L d : Addr} {news : List (Addr × Obj)} {o : Obj} {kvs : List (K × Value)} {k : K} {key v : Value}
theorem in_led_some {Q : Value → Shared → Prop} (N : News h₀ L s.heap news := by k_asm) (hp : (d, o) ∈ news := by k_mem) (hd : o.IsDictOf knd kvs := by k_asm) (lo : (d == sysModules) = false := by assumption) (hkey : knd.is k key = true := by exact strKind_is _ _ _ _) (hl : valueAt kvs k = some v := by assumption) (h : Q (.bool true) { s with toks := s.toks + 1 }) :
    wpAny (model prog w) A (compareOp .In key (.ref d)) Q E s := kda_in N hp hd lo hkey true (by rw [hl]; rfl) h
theorem in_led_none {Q : Value → Shared → Prop} (N : News h₀ L s.heap news := by k_asm) (hp : (d, o) ∈ news := by k_mem) (hd : o.IsDictOf knd kvs := by k_asm) (lo : (d == sysModules) = false := by assumption) (hkey : knd.is k key = true := by exact strKind_is _ _ _ _) (hl : valueAt kvs k = none := by assumption) (h : Q (.bool false) { s with toks := s.toks + 1 }) :
    wpAny (model prog w) A (compareOp .In key (.ref d)) Q E s := kda_in N hp hd lo hkey false (by rw [hl]; rfl) h
end
local macro_rules
  | `(tactic| walk_at "subscriptTail") => `(tactic| ((with_reducible show wpAny _ _ (subscriptTail _ _ (Value.ref _) (Value.str _ _)) _ _ _); k_dflt (refine kda_item (knd := strKind _ _) (by k_asm) (by k_mem) (by k_asm) (strKind_is _ _ _ _) (by assumption) ?_ (by with_unfolding_all rfl) (by intro _; with_unfolding_all rfl))))
  | `(tactic| walk_at $s:str) => kP s [("compareOp In str ref", kF (kS ``in_led_some) (kS ``in_led_none)), ("exec Assign cons DictComp", kA ``Assign_DictComp_D)]
theorem seg_within : ∀ (w : World) (loose : List Str) (mean : ExcName → Option Value) (mg mb : Str → Option Value) (dp un : Nat) (gd : Option (List Code)) (a : Addr) (ccd : Value) (outer : List Env) (A₀ : Around) (base h₀ : Heap) (L : Addr) (m : Str → Option Value) (s : Shared) (Q : Flow → Shared → Prop) (E : Value → Shared → Prop)
    (Dw dt : Addr) (wv : List Value) (nw : Nat) (ws : List Str) (odt oT : Obj) (kvt : List (Str × Value)) (it : List (Str × Int)) (rest : List (Addr × Obj)) (sc : Scope) (hsc : sc = lawSc) (st : Stmt) (hst : st = nthS turnB 3),
    Site w (hd.heap_39 w.params) loose mean mg mb dp un sc outer A₀ base h₀ L m 60 s →
    News h₀ L s.heap ((Dw, lstN wv nw) :: (dt, odt) :: (L + 1 + 1 + 1 + 1 + 1, oT) :: rest) → m "words" = some (.ref Dw) → StrsAre wv ws → ws.Nodup → ws.length ≤ 4 → oT.data = .cell (some (.ref dt)) →
    odt.IsDictOf (strKind PySem.Challenge.rw_zo0006_01.row.prog w) kvt → IntKvs kvt it → (dt == sysModules) = false →
    (∀ (h' : Heap) (tk' : Nat) (D : Addr) (oD : Obj) (kvs : List (Str × Value)) (iw : List (Str × Int)), (D == sysModules) = false → Fr h₀ L h' (fun z => if z = ("within" : Str) then some (.ref D) else m z) → News h₀ L h' ((D, oD) :: (Dw, lstN wv nw) :: (dt, odt) :: (L + 1 + 1 + 1 + 1 + 1, oT) :: rest) →
      oD.IsDictOf (strKind PySem.Challenge.rw_zo0006_01.row.prog w) kvs → IntKvs kvs iw → (iw.map (·.2)).sum = (ws.map fun x => valI it x).sum → (∀ p ∈ (Dw, lstN wv nw) :: (dt, odt) :: (L + 1 + 1 + 1 + 1 + 1, oT) :: rest, p.1 ≠ D) → Q .next { s with heap := h', toks := tk' }) →
      wpAny (model PySem.Challenge.rw_zo0006_01.row.prog w) (lawTop dp un gd sc L a ccd outer) (exec st (lawEnv sc L a ccd)) Q E s := by
  k_fill
  w_top off
  intro w loose mean mg mb dp un gd a ccd outer A₀ base h₀ L m s Q E Dw dt wv nw ws odt oT kvt it rest sc hsc st hst S N hmw hws hnd hlen hoT hdt hit lodt hret
  conv at hsc => rhs; whnf
  conv at hst => rhs; whnf
  subst hsc
  subst hst
  obtain ⟨hB, hF, hK, hT, hk, hdp, hun⟩ := S
  k_steps
  unfold Hold
  have F2 := hF
  have hlt : wv.toArray.size = ws.length := by simpa using hws.length
  refine iter_listDU (strKind _ _) (fun i kvs => ∃ iw : List (Str × Int), IntKvs kvs iw ∧ iw.length ≤ i ∧ (∀ p ∈ iw, p.1 ∈ ws.take i) ∧ (iw.map (·.2)).sum = ((ws.take i).map fun x => valI it x).sum) rfl (.inr ⟨_, .head _, rfl, _, rfl⟩) (by rw [sizeLine_eq, hlt]; omega) F2 N ⟨[], rfl, Nat.le_refl _, by simp, rfl⟩ (fun i kvs h => by obtain ⟨iw, h1, h2, _⟩ := h; rw [h1.length]; exact h2) ?_ ?_
  · rintro s₂ ⟨h2, rfl⟩ j v I oI C oC D oD kvs m₂ h tk E' hj hv hJ hD hC hx F3 N3 off ne
    obtain ⟨iw, k1, k2, k3, k4⟩ := hJ
    clear F2 N
    have hj' : j < ws.length := by omega
    obtain ⟨x, t, rfl, hx1⟩ := hws.item j v (by simpa using hv)
    have htk : ws.take (j + 1) = ws.take j ++ [x] := by rw [List.take_add_one, hx1]; rfl
    have hlook := hit.look x
    have hsum : ((ws.take (j + 1)).map fun x => valI it x).sum = ((ws.take j).map fun x => valI it x).sum + valI it x := by
      rw [htk, List.map_append, List.sum_append]; simp
    have hkeep : ∀ p ∈ iw, p.1 ∈ ws.take (j + 1) := fun p hp => by rw [htk]; exact List.mem_append_left _ (k3 p hp)
    cases hl : valueAt kvt x with
    | none =>
      k_steps
      rw [hl] at hlook
      have hz : lookI it x = none := by
        cases q : lookI it x with
        | none => rfl
        | some y => rw [q] at hlook; cases hlook
      have hv0 : valI it x = 0 := by unfold valI; rw [hz]; rfl
      exact ⟨_, _, rfl, F3, N3, iw, k1, by omega, hkeep, by rw [hsum, k4, hv0, Int.add_zero]⟩
    | some u =>
      k_steps
      rw [hl] at hlook
      obtain ⟨y, hy⟩ : ∃ y, lookI it x = some y := by
        cases q : lookI it x with
        | none => rw [q] at hlook; cases hlook
        | some y => exact ⟨y, rfl⟩
      rw [hy] at hlook
      obtain ⟨ty, rfl⟩ := iv_some (Option.some.inj hlook)
      have hvy : valI it x = y := by unfold valI; rw [hy]; rfl
      have hnot : x ∉ ws.take j := fun hm => by
        have h1 : (ws.take (j + 1)).Nodup := hnd.sublist (List.take_sublist _ _)
        rw [htk] at h1
        exact (List.nodup_append.mp h1).2.2 _ hm x (.head _) rfl
      have hno : lookI iw x = none := by
        unfold lookI
        rw [List.find?_eq_none.mpr]
        · rfl
        · intro p hp e
          have e : p.1 = x := by simpa using e
          exact hnot (e ▸ k3 p hp)
      exact ⟨_, _, rfl, F3, N3, x, strKind_is _ _ _ _, iw ++ [(x, y)], k1.put_new hno, by simp; omega, fun p hp => by
        rcases List.mem_append.mp hp with hp | hp
        · exact hkeep p hp
        · rw [List.mem_singleton.mp hp, htk]; simp, by rw [hsum, hvy, List.map_append, List.sum_append, k4]; simp⟩
  · intro D oD kvs h tk hLD F3 N3 hD off hJ
    obtain ⟨iw, k1, k2, k3, k4⟩ := hJ
    rw [hlt, List.take_length] at k4
    refine hret h tk D oD kvs iw ?_ F3 N3 hD k1 k4 (off1_all off)
    exact beq_eq_false_iff_ne.mpr (Nat.ne_of_gt (Nat.lt_trans (modules_low hT.nolimit) (Nat.lt_of_le_of_lt F2.above hLD)))
end

/-! Seg2 -/
section
local macro_rules | `(tactic| walk_at $s:str) => kP s [("eval ListComp", kA ``ListComp_two)]
theorem seg_between : ∀ (w : World) (loose : List Str) (mean : ExcName → Option Value) (mg mb : Str → Option Value) (dp un : Nat) (gd : Option (List Code)) (a : Addr) (ccd : Value) (outer : List Env) (A₀ : Around) (base h₀ : Heap) (L : Addr) (m : Str → Option Value) (s : Shared) (Q : Flow → Shared → Prop) (E : Value → Shared → Prop)
    (Dm lw : Addr) (my : List Value) (nm nw i : Nat) (oM oE : Obj) (ra : Nat → Addr) (W : Nat → Nat → Int) (wt : Nat → Nat → Tok) (rest : List (Addr × Obj)) (sc : Scope) (hsc : sc = lawSc) (st : Stmt) (hst : st = nthS turnB 4),
    Site w (hd.heap_39 w.params) loose mean mg mb dp un sc outer A₀ base h₀ L m 60 s →
    News h₀ L s.heap ((Dm, lstN my nm) :: (L + 1 + 1 + 1 + 1, oM) :: (L + 1, oE) :: (lw, lstN [.ref (ra 0), .ref (ra 1), .ref (ra 2), .ref (ra 3)] nw) :: rest) → oM.data = .cell (some (.ref Dm)) → oE.data = .cell (some (.ref lw)) →
    (∀ r, r < 4 → ∃ n, (ra r, lstN (wRow W wt r) n) ∈ rest) → MemsAre i my →
    (∀ (h' : Heap) (tk' : Nat) (t : Tok), Fr h₀ L h' (fun z => if z = ("between" : Str) then some (.int ((pairs i).map fun p => W p.1 p.2).sum t) else m z) → News h₀ L h' ((Dm, lstN my nm) :: (L + 1 + 1 + 1 + 1, oM) :: (L + 1, oE) :: (lw, lstN [.ref (ra 0), .ref (ra 1), .ref (ra 2), .ref (ra 3)] nw) :: rest) →
      Q .next { s with heap := h', toks := tk' }) →
      wpAny (model PySem.Challenge.rw_zo0006_01.row.prog w) (lawTop dp un gd sc L a ccd outer) (exec st (lawEnv sc L a ccd)) Q E s := by
  k_fill
  w_top off
  intro w loose mean mg mb dp un gd a ccd outer A₀ base h₀ L m s Q E Dm lw my nm nw i oM oE ra W wt rest sc hsc st hst S N hoM hoE hrow hmy hret
  conv at hsc => rhs; whnf
  conv at hst => rhs; whnf
  subst hsc
  subst hst
  obtain ⟨hB, hF, hK, hT, hk, hdp, hun⟩ := S
  k_steps
  unfold Hold
  have hlen := hmy.len
  have hM4 := mems_len i
  refine iter_listTwo (fun j ys => IntsAre ys (outerP W (mems i) ((mems i).take j)) ∧ ys.length ≤ 4 * j) (fun j k ys => ∃ r, (mems i)[j]? = some r ∧ IntsAre ys (outerP W (mems i) ((mems i).take j) ++ (((mems i).take k).filter fun c => decide (r < c)).map fun c => W r c) ∧ ys.length ≤ 4 * j + k ∧ k ≤ 4) ?_ rfl (.inr ⟨_, .head _, rfl, _, rfl⟩) hF N ⟨.nil, Nat.le_refl _⟩ ?_ ?_
  · rintro j k ys ⟨r, h1, h2, h3, h4⟩
    have := (List.getElem?_eq_some_iff.mp h1).1
    rw [sizeLine_eq]; omega
  · rintro j v I C D ys oI oC m₂ s₂ E' ⟨h2, tk2, rfl⟩ hv hJ hC hx F3 N3 off ne neC neD
    obtain ⟨r, t, hr, hr4, rfl⟩ := hmy.at (by simpa using hv)
    clear N
    k_steps
    unfold Hold
    refine inner_list (its := my.toArray) ⟨_, _, rfl⟩ rfl (.inr ⟨_, .head _, rfl, _, rfl⟩) F3 N3 neC neD ⟨r, hr, by simpa using hJ.1, by omega, by omega⟩ ?_ ?_
    · intro I1 k v1 ys' oI1 oC' m₃ h tk E'' hv1 hJ1 hC1 hx1 hx0 F4 N4
      obtain ⟨c, t1, hc, hc4, rfl⟩ := hmy.at (by simpa using hv1)
      obtain ⟨r', hr', hI1, hl1, hk1⟩ := hJ1
      have hrr : r' = r := by rw [hr] at hr'; exact (Option.some.inj hr').symm
      subst hrr
      clear F3 N3
      obtain ⟨n4, hrow4⟩ := hrow r' hr4
      have hm4 : (ra r', lstN (wRow W wt r') n4) ∈ (I1, oI1) :: (I, oI) :: (C, oC') :: (D, LCg.lst ys') :: (Dm, lstN my nm) :: (L + 1 + 1 + 1 + 1, oM) :: (L + 1, oE) :: (lw, lstN [.ref (ra 0), .ref (ra 1), .ref (ra 2), .ref (ra 3)] nw) :: rest := by simp [hrow4]
      have e1 := at_ref (ra := ra) hr4
      have e2 := at_row (W := W) (wt := wt) (r := r') hc4
      have hkl : k < (mems i).length := (List.getElem?_eq_some_iff.mp hc).1
      k_steps
      · rename ((r' : Int) < (c : Int)) => hlt
        refine ⟨_, _, rfl, F4, N4, r', hr, ?_, by simp; omega, by omega⟩
        rw [take_snoc hc, List.filter_append, List.map_append, ← List.append_assoc]
        have : decide (r' < c) = true := by simp; omega
        simp only [List.filter_cons, this, if_true, List.filter_nil, List.map_cons, List.map_nil]
        exact ints_snoc hI1
      · rename ¬ ((r' : Int) < (c : Int)) => hlt
        refine ⟨_, _, rfl, F4, N4, r', hr, ?_, by omega, by omega⟩
        rw [take_snoc hc, List.filter_append, List.map_append]
        have : decide (r' < c) = false := by simp; omega
        simpa [this] using hI1
    · rintro ys' ⟨r', hr', hI1, hl1, -⟩
      have hrr : r' = r := by rw [hr] at hr'; exact (Option.some.inj hr').symm
      subst hrr
      have e4 : my.toArray.size = (mems i).length := by simpa using hlen
      rw [e4, List.take_length] at hI1
      rw [take_snoc hr, outerP_snoc]
      exact ⟨hI1, by omega⟩
  · intro D h tk ys F3 N3 off hJ
    obtain ⟨hI, -⟩ := hJ
    have : my.toArray.size = (mems i).length := by simpa using hlen
    rw [this, List.take_length] at hI
    clear N
    k_steps
    rename Fr h₀ _ _ _ => F9
    rename News h₀ _ _ _ => N9
    rw [outerP_pairs] at F9
    exact hret _ _ _ F9 (fun p hp => N9 p (.tail _ hp))
end

/-! Seg3 -/
section
local macro_rules | `(tactic| walk_at $s:str) => kP s [("eval Name", kA ``nameX_LA), ("eval ListComp", kL ``LCg.ListComp_U)]
local macro_rules | `(tactic| walk_at "CompSrc") => `(tactic| (first
  | (k_dflt (refine LCg.CompSrc.ledger (by rfl) (by k_asm) (by k_asm) (by k_mem) (by assumption) ?_); intro g'; refine hold ?_)))
theorem seg_if : ∀ (w : World) (loose : List Str) (mean : ExcName → Option Value) (mg mb : Str → Option Value) (dp un : Nat) (gd : Option (List Code)) (a : Addr) (ccd : Value) (outer : List Env) (A₀ : Around) (base h₀ : Heap) (L : Addr) (m : Str → Option Value) (s : Shared) (Q : Flow → Shared → Prop) (E : Value → Shared → Prop)
    (Dm lw Dd : Addr) (my : List Value) (nm nw i : Nat) (oM oE od : Obj) (kvs : List (Str × Value)) (iw : List (Str × Int)) (b : Int) (tb : Tok) (ra : Nat → Addr) (W : Nat → Nat → Int) (wt : Nat → Nat → Tok) (rest : List (Addr × Obj)) (sc : Scope) (hsc : sc = lawSc) (st : Stmt) (hst : st = nthS turnB 5),
    Site w (hd.heap_39 w.params) loose mean mg mb dp un sc outer A₀ base h₀ L m 60 s →
    News h₀ L s.heap ((Dd, od) :: (Dm, lstN my nm) :: (L + 1 + 1 + 1 + 1, oM) :: (L + 1, oE) :: (lw, lstN [.ref (ra 0), .ref (ra 1), .ref (ra 2), .ref (ra 3)] nw) :: rest) → oM.data = .cell (some (.ref Dm)) → oE.data = .cell (some (.ref lw)) →
    (∀ r, r < 4 → ∃ n, (ra r, lstN (wRow W wt r) n) ∈ rest) → MemsAre i my →
    m "within" = some (.ref Dd) → m "between" = some (.int b tb) → 0 ≤ b → b ≤ 1000 → (Dd == sysModules) = false → od.IsDictOf (strKind PySem.Challenge.rw_zo0006_01.row.prog w) kvs → IntKvs kvs iw →
    (iw.map (·.2)).sum = ((mems i).map fun r => W r r).sum + 2 * b →
    (∀ (h' : Heap) (tk' : Nat), Fr h₀ L h' m → News h₀ L h' ((Dd, od) :: (Dm, lstN my nm) :: (L + 1 + 1 + 1 + 1, oM) :: (L + 1, oE) :: (lw, lstN [.ref (ra 0), .ref (ra 1), .ref (ra 2), .ref (ra 3)] nw) :: rest) →
      Q .next { s with heap := h', toks := tk' }) →
      wpAny (model PySem.Challenge.rw_zo0006_01.row.prog w) (lawTop dp un gd sc L a ccd outer) (exec st (lawEnv sc L a ccd)) Q E s := by
  k_fill
  w_top off
  intro w loose mean mg mb dp un gd a ccd outer A₀ base h₀ L m s Q E Dm lw Dd my nm nw i oM oE od kvs iw b tb ra W wt rest sc hsc st hst S N hoM hoE hrow hmy hwi hbe hb0 hb1 lod hod hiw heq hret
  conv at hsc => rhs; whnf
  conv at hst => rhs; whnf
  subst hsc
  subst hst
  obtain ⟨hB, hF, hK, hT, hk, hdp, hun⟩ := S
  k_steps
  unfold Hold
  refine c_count _ _ _ _ _ _ _ _ _ _ _ _ _ _ _ _ _ _ _ _ _ _ _ kvs iw ⟨hB, hF, hK, hT, rfl, room0 (by assumption) (by decide), room0 (by assumption) (by decide)⟩ lod (Heap.dictOf_iff.mpr ⟨od, (N _ (.head _)).1, hod⟩) hiw ?_
  intro h2 tk2 t2 up2
  have F2 := hF.keeps up2
  have N2 := N.grown up2
  clear hF N up2
  have hlen := hmy.len
  have hM4 := mems_len i
  have hsz : my.toArray.size ≤ sizeLine := by rw [sizeLine_eq, List.size_toArray]; omega
  have hsz' : my.toArray.size = (mems i).length := by rw [List.size_toArray, hlen]
  k_steps
  unfold Hold
  rename Fr h₀ _ _ _ => F3
  rename News h₀ _ _ _ => N3
  refine restU (fun j v => ∃ r t, (mems i)[j]? = some r ∧ v = .int (W r r) t) (.inr ⟨_, .tail _ (.head _), rfl, _, rfl⟩) ?_ ?_
  · intro j v I oI C oC D m₂ ys h tk E' hj hv hC hx F4 N4 off ne
    obtain ⟨r, t, hr, hr4, rfl⟩ := hmy.at (by simpa using hv)
    clear F3 N3
    obtain ⟨n4, hrow4⟩ := hrow r hr4
    have hm4 : (ra r, lstN (wRow W wt r) n4) ∈ (I, oI) :: (C, oC) :: (D, LCg.lst ys) :: (Dd, od) :: (Dm, lstN my nm) :: (L + 1 + 1 + 1 + 1, oM) :: (L + 1, oE) :: (lw, lstN [.ref (ra 0), .ref (ra 1), .ref (ra 2), .ref (ra 3)] nw) :: rest := by simp [hrow4]
    have e1 := at_ref (ra := ra) hr4
    have e2 := at_row (W := W) (wt := wt) (r := r) hr4
    k_steps
    exact ⟨_, _, rfl, F4, N4, r, _, hr, rfl⟩
  intro ys hys D h tk F4 N4 o4
  clear F3 N3
  have hI : IntsAre ys ((mems i).map fun r => W r r) := by
    rw [hsz'] at hys
    exact paired_mems hys
  dsimp only
  k_steps
  · exact absurd heq (by assumption)
  · rename Fr h₀ _ _ _ => F9
    rename News h₀ _ _ _ => N9
    exact hret _ _ F9 (fun p hp => N9 p (.tail _ hp))
end

/-! Seg4 -/
section
/-- the choice's text -/
noncomputable def textF (nm : Nat → Str) (p2 : Str) (it : List (Str × Int)) : Str := Txt.join (Str.ofString "") [markT (lookI it (nm 0)) (Str.ofString "a"), markT (lookI it (nm 1)) (Str.ofString "("), markT (lookI it (nm 2)) p2, markT (lookI it (nm 3)) (Str.ofString "\\\\")]
noncomputable def namesL (nm : Nat → Str) (nt : Nat → Tok) : List Value := [.str (nm 0) (nt 0), .str (nm 1) (nt 1), .str (nm 2) (nt 2), .str (nm 3) (nt 3)]
noncomputable def piecesL (p2 : Str) (pt : Nat → Tok) : List Value := [.str (Str.ofString "a") (pt 0), .str (Str.ofString "(") (pt 1), .str p2 (pt 2), .str (Str.ofString "\\\\") (pt 3)]
local macro_rules
  | `(tactic| walk_at "call builtin:list.append") => `(tactic| (refine append_ownN (by k_asm) (by k_asm) (UpdF.head (by assumption)) (by assumption) ?_; intro h' F' N'))
  | `(tactic| walk_at $s:str) => kP s [("eval Name", kA ``nameX_LA)]
theorem seg_lefts : ∀ (w : World) (loose : List Str) (mean : ExcName → Option Value) (mg mb : Str → Option Value) (dp un : Nat) (gd : Option (List Code)) (a : Addr) (ccd : Value) (outer : List Env) (A₀ : Around) (base h₀ : Heap) (L : Addr) (m : Str → Option Value) (s : Shared) (Q : Flow → Shared → Prop) (E : Value → Shared → Prop)
    (lf ln lp dt : Addr) (lvs : List Value) (nl nn np : Nat) (oT odt : Obj) (kvt : List (Str × Value)) (it : List (Str × Int)) (nm : Nat → Str) (nt pt : Nat → Tok) (p2 : Str) (rest : List (Addr × Obj)) (sc : Scope) (hsc : sc = lawSc) (st : Stmt) (hst : st = nthS turnB 6),
    Site w (hd.heap_39 w.params) loose mean mg mb dp un sc outer A₀ base h₀ L m 60 s →
    News h₀ L s.heap ((lf, lstN lvs nl) :: (ln, lstN (namesL nm nt) nn) :: (lp, lstN (piecesL p2 pt) np) :: (L + 1 + 1 + 1 + 1 + 1, oT) :: (dt, odt) :: rest) →
    (∀ p ∈ (ln, lstN (namesL nm nt) nn) :: (lp, lstN (piecesL p2 pt) np) :: (L + 1 + 1 + 1 + 1 + 1, oT) :: (dt, odt) :: rest, p.1 ≠ lf) → lvs.length ≤ sizeLine →
    m "lefts" = some (.ref lf) → m "names" = some (.ref ln) → m "pieces" = some (.ref lp) → oT.data = .cell (some (.ref dt)) → 
    odt.IsDictOf (strKind PySem.Challenge.rw_zo0006_01.row.prog w) kvt → IntKvs kvt it → (dt == sysModules) = false → (∀ k, 0 ≤ (lookI it k).getD 0 ∧ (lookI it k).getD 0 ≤ 8) → p2.length ≤ 2 → endE (cpL (textF nm p2 it)) false = false → (textF nm p2 it).length ≤ 200 →
    (∀ (h' : Heap) (tk' : Nat) (gs' : Array GenState) (t : Tok), Fr h₀ L h' m → News h₀ L h' ((lf, lstN (lvs ++ [.str (stripF (textF nm p2 it)) t]) (nl + 1)) :: (ln, lstN (namesL nm nt) nn) :: (lp, lstN (piecesL p2 pt) np) :: (L + 1 + 1 + 1 + 1 + 1, oT) :: (dt, odt) :: rest) →
      (gs' = s.gens ∨ gs' = s.gens.push .finished) → Q .next { s with heap := h', gens := gs', toks := tk' }) →
      wpAny (model PySem.Challenge.rw_zo0006_01.row.prog w) (lawTop dp un gd sc L a ccd outer) (exec st (lawEnv sc L a ccd)) Q E s := by
  k_fill
  w_top off
  intro w loose mean mg mb dp un gd a ccd outer A₀ base h₀ L m s Q E lf ln lp dt lvs nl nn np oT odt kvt it nm nt pt p2 rest sc hsc st hst S N hoff hsz hml hmn hmp hoT hdt hit lodt hbd hp2 hend hlen hret
  conv at hsc => rhs; whnf
  conv at hst => rhs; whnf
  subst hsc
  subst hst
  obtain ⟨hB, hF, hK, hT, hk, hdp, hun⟩ := S
  k_steps
  unfold Hold
  refine c_text _ _ _ _ _ _ _ _ _ _ _ _ _ _ _ _ _ _ _ _ _ _ _ _ _ (nm 0) (nm 1) (nm 2) (nm 3) (Str.ofString "a") (Str.ofString "(") p2 (Str.ofString "\\\\") (nt 0) (nt 1) (nt 2) (nt 3) (pt 0) (pt 1) (pt 2) (pt 3) kvt it ⟨hB, hF, hK, hT, rfl, room0 (by assumption) (by decide), room0 (by assumption) (by decide)⟩ ⟨_, (N _ (.tail _ (.head _))).1, rfl, _, rfl⟩ ⟨_, (N _ (.tail _ (.tail _ (.head _)))).1, rfl, _, rfl⟩ lodt (Heap.dictOf_iff.mpr ⟨odt, (N (dt, odt) (by simp)).1, hdt⟩) hit hbd (by decide +kernel) (by decide +kernel) hp2 (by decide +kernel) ?_
  intro h2 tk2 t2 up2
  have F2 := hF.keeps up2
  have N2 := N.grown up2
  clear hF N up2
  k_steps
  unfold Hold
  refine c_strip _ _ _ _ _ _ _ _ _ _ _ _ _ _ _ _ _ _ _ _ _ _ _ _ ⟨hB, F2, hK, hT, rfl, room0 (by assumption) (by decide), room0 (by assumption) (by decide)⟩ hend hlen ?_
  intro h3 tk3 gs3 t3 up3 hgs
  have F3 := F2.keeps up3
  have N3 := N2.grown up3
  clear F2 N2 up3
  k_steps
  rename Fr h₀ _ _ _ => F9
  rename News h₀ _ _ _ => N9
  exact hret _ _ gs3 t3 F9 N9 hgs
end

/-! Seg5 -/
section
/-- the columns whose wire from a row is odd, as powers of two -/
noncomputable def oddsR (W : Nat → Nat → Int) (r n : Nat) : List Int := ((List.range n).filter fun c => decide (Int.fmod (W r c) 2 = 1)).map fun c => (2 : Int) ^ c
noncomputable def oddsL (W : Nat → Nat → Int) (l : List Nat) : List Int := (l.map fun r => oddsR W r 4).flatten
theorem oddsR_len (W : Nat → Nat → Int) (r n : Nat) : (oddsR W r n).length ≤ n := by
  unfold oddsR
  rw [List.length_map]
  exact Nat.le_trans (List.length_filter_le _ _) (by simp)
theorem oddsL_snoc {W : Nat → Nat → Int} {l : List Nat} {r : Nat} : oddsL W (l ++ [r]) = oddsL W l ++ oddsR W r 4 := by
  unfold oddsL
  rw [List.map_append, List.flatten_append]
  simp
theorem oddsR_succ1 {W : Nat → Nat → Int} {r n : Nat} (h : Int.fmod (W r n) 2 = 1) : oddsR W r (n + 1) = oddsR W r n ++ [(2 : Int) ^ n] := by
  unfold oddsR
  rw [List.range_succ, List.filter_append, List.map_append]
  simp [h]
theorem oddsR_succ0 {W : Nat → Nat → Int} {r n : Nat} (h : ¬ Int.fmod (W r n) 2 = 1) : oddsR W r (n + 1) = oddsR W r n := by
  unfold oddsR
  rw [List.range_succ, List.filter_append, List.map_append]
  simp [h]
local macro_rules | `(tactic| walk_at $s:str) => kP s [("eval Name", kA ``nameX_LA), ("call builtin:len", kI 1 (kA ``len_own))]
local macro_rules | `(tactic| walk_at $s:str) => kP s [("eval ListComp", kA ``ListComp_two)]
theorem seg_few : ∀ (w : World) (loose : List Str) (mean : ExcName → Option Value) (mg mb : Str → Option Value) (dp un : Nat) (gd : Option (List Code)) (a : Addr) (ccd : Value) (outer : List Env) (A₀ : Around) (base h₀ : Heap) (L : Addr) (m : Str → Option Value) (s : Shared) (Q : Flow → Shared → Prop) (E : Value → Shared → Prop)
    (Dm lw lf lp : Addr) (my lvs : List Value) (nm nw nl np i : Nat) (oM oE oH : Obj) (tc tx : Tok) (x p2 : Str) (pt : Nat → Tok) (ra : Nat → Addr) (W : Nat → Nat → Int) (wt : Nat → Nat → Tok) (rest : List (Addr × Obj)) (sc : Scope) (hsc : sc = lawSc) (st : Stmt) (hst : st = nthS turnB 7),
    Site w (hd.heap_39 w.params) loose mean mg mb dp un sc outer A₀ base h₀ L m 60 s →
    News h₀ L s.heap ((lf, lstN lvs nl) :: (lp, lstN (piecesL p2 pt) np) :: (L + 1 + 1 + 1, oH) :: (Dm, lstN my nm) :: (L + 1 + 1 + 1 + 1, oM) :: (L + 1, oE) :: (lw, lstN [.ref (ra 0), .ref (ra 1), .ref (ra 2), .ref (ra 3)] nw) :: rest) → oM.data = .cell (some (.ref Dm)) → oE.data = .cell (some (.ref lw)) → oH.data = .cell (some (.int (0 + (i : Int)) tc)) →
    (∀ r, r < 4 → ∃ n, (ra r, lstN (wRow W wt r) n) ∈ rest) → MemsAre i my → i < 16 →
    m "lefts" = some (.ref lf) → m "pieces" = some (.ref lp) → p2.length ≤ 2 → lvs[i]? = some (.str x tx) →
    ((mems i).length < 2 → 0 ≤ (oddsL W (mems i)).sum ∧ (oddsL W (mems i)).sum < 16 ∧ x = Txt.join (Str.ofString "") (restL (oddsL W (mems i)).sum [Str.ofString "a", Str.ofString "(", p2, Str.ofString "\\\\"])) →
    (∀ (h' : Heap) (tk' : Nat) (u : Option Value), Fr h₀ L h' (fun z => if z = ("lost" : Str) then u else m z) → News h₀ L h' ((lf, lstN lvs nl) :: (lp, lstN (piecesL p2 pt) np) :: (L + 1 + 1 + 1, oH) :: (Dm, lstN my nm) :: (L + 1 + 1 + 1 + 1, oM) :: (L + 1, oE) :: (lw, lstN [.ref (ra 0), .ref (ra 1), .ref (ra 2), .ref (ra 3)] nw) :: rest) →
      Q .next { s with heap := h', toks := tk' }) →
      wpAny (model PySem.Challenge.rw_zo0006_01.row.prog w) (lawTop dp un gd sc L a ccd outer) (exec st (lawEnv sc L a ccd)) Q E s := by
  k_fill
  w_top off
  intro w loose mean mg mb dp un gd a ccd outer A₀ base h₀ L m s Q E Dm lw lf lp my lvs nm nw nl np i oM oE oH tc tx x p2 pt ra W wt rest sc hsc st hst S N hoM hoE hoH hrow hmy hi hml hmp hp2 hx hfew hret
  conv at hsc => rhs; whnf
  conv at hst => rhs; whnf
  subst hsc
  subst hst
  obtain ⟨hB, hF, hK, hT, hk, hdp, hun⟩ := S
  have hlen := hmy.len
  have hM4 := mems_len i
  have hM1 : (mems i).length ≤ 1000 := by omega
  k_steps
  · rename ((mems i).length : Int) < 2 => hlt
    obtain ⟨hl0, hl1, hlx⟩ := hfew (by omega)
    unfold Hold
    have hJl : ∀ (j : Nat) (ys : List Value), j ≤ (mems i).length → ys.length ≤ 4 * j → ys.length ≤ 16 := fun j ys h1 h2 => Nat.le_trans h2 (Nat.mul_le_mul_left 4 (Nat.le_trans h1 (show (mems i).length ≤ 4 by assumption)))
    refine iter_listTwo (fun j ys => IntsAre ys (oddsL W ((mems i).take j)) ∧ ys.length ≤ 4 * j) (fun j k ys => ∃ r, (mems i)[j]? = some r ∧ IntsAre ys (oddsL W ((mems i).take j) ++ oddsR W r k) ∧ ys.length ≤ 4 * j + k ∧ k ≤ 4) ?_ rfl (.inr ⟨_, List.mem_of_getElem? (i := 3) rfl, rfl, _, rfl⟩) hF N ⟨.nil, Nat.le_refl _⟩ ?_ ?_
    · rintro j k ys ⟨r, h1, h2, h3, h4⟩
      have := (List.getElem?_eq_some_iff.mp h1).1
      rw [sizeLine_eq]; exact Nat.le_trans (Nat.le_trans h3 (Nat.add_le_add (Nat.mul_le_mul_left 4 (Nat.le_trans (Nat.le_of_lt this) (show (mems i).length ≤ 4 by assumption))) h4)) (by decide)
    · rintro j v I C D ys oI oC m₂ s₂ E' ⟨h2, tk2, rfl⟩ hv hJ hC hxx F3 N3 off ne neC neD
      obtain ⟨r, t, hr, hr4, rfl⟩ := hmy.at (by simpa using hv)
      clear N hF
      k_steps
      unfold Hold
      rename Fr h₀ _ _ _ => F5
      rename News h₀ _ _ _ => N5
      rename IsRange _ _ _ _ _ _ _ _ => R5
      refine inner_range (n := 4) ⟨_, _, rfl⟩ rfl R5 (by decide) (by rfl) F5 N5 ⟨r, hr, by simpa [oddsR] using hJ.1, by omega, by omega⟩ ?_ ?_
      · intro I1 k t1 ys' oI1 oC' m₃ h tk E'' hk4 hJ1 hC1 hx1 hx0 F4 N4
        obtain ⟨r', hr', hI1, hl1, hk1⟩ := hJ1
        have hrr : r' = r := by rw [hr] at hr'; exact (Option.some.inj hr').symm
        subst hrr
        clear F5 N5 R5
        obtain ⟨n4, hrow4⟩ := hrow r' hr4
        have hm4 : (ra r', lstN (wRow W wt r') n4) ∈ (I1, oI1) :: (I, oI) :: (C, oC') :: (D, LCg.lst ys') :: (lf, lstN lvs nl) :: (lp, lstN (piecesL p2 pt) np) :: (L + 1 + 1 + 1, oH) :: (Dm, lstN my nm) :: (L + 1 + 1 + 1 + 1, oM) :: (L + 1, oE) :: (lw, lstN [.ref (ra 0), .ref (ra 1), .ref (ra 2), .ref (ra 3)] nw) :: rest := by simp [hrow4]
        have e1 := at_ref (ra := ra) hr4
        have e2 := at_row (W := W) (wt := wt) (r := r') hk4
        have hpw : (0 : Int) + (k : Int) = ((k : Nat) : Int) := by omega
        have e3 : (wRow W wt r')[((0 : Int) + (k : Int)).toNat]? = some (.int (W r' k) (wt r' k)) := by rw [hpw]; exact e2
        have hp64 : k ≤ 64 := by omega
        k_steps
        · exact ⟨_, _, rfl, F4, N4, r', hr, by rw [oddsR_succ1 (by assumption), ← List.append_assoc]; exact ints_snoc hI1, by simp; omega, by omega⟩
        · exact ⟨_, _, rfl, F4, N4, r', hr, by rw [oddsR_succ0 (by assumption)]; exact hI1, by omega, by omega⟩
      · rintro ys' ⟨r', hr', hI1, hl1, -⟩
        have hrr : r' = r := by rw [hr] at hr'; exact (Option.some.inj hr').symm
        subst hrr
        rw [take_snoc hr, oddsL_snoc]
        exact ⟨hI1, by omega⟩
    · intro D h tk ys F3 N3 off hJ
      obtain ⟨hI, -⟩ := hJ
      have : my.toArray.size = (mems i).length := by simpa using hlen
      rw [this, List.take_length] at hI
      clear N hF
      have hx' : lvs[((0 : Int) + (i : Int)).toNat]? = some (.str x tx) := by
        rw [zero_add_toNat]; exact hx
      k_steps
      unfold Hold
      rename Fr h₀ _ _ _ => F6
      rename News h₀ _ _ _ => N6
      refine c_rest _ _ _ _ _ _ _ _ _ _ _ _ _ _ _ _ _ _ _ _ _ _ lp _ _ (Str.ofString "a") (Str.ofString "(") p2 (Str.ofString "\\\\") (pt 0) (pt 1) (pt 2) (pt 3) ⟨hB, F6, hK, hT, rfl, room0 (by assumption) (by decide), room0 (by assumption) (by decide)⟩ ⟨_, (N6 (lp, lstN (piecesL p2 pt) np) (by simp)).1, rfl, _, rfl⟩ hl0 hl1 (by decide +kernel) (by decide +kernel) hp2 (by decide +kernel) ?_
      intro h7 tk7 t7 up7
      have F7 := F6.keeps up7
      have N7 := N6.grown up7
      clear F6 N6 up7
      k_steps
      · rename (_ != _) = true => hne
        exact absurd hlx (by simpa using hne)
      · exact hret _ _ _ F7 (fun p hp => N7 p (.tail _ hp))
  · have hm : m = fun z => if z = ("lost" : Str) then m "lost" else m z := by
      funext z
      by_cases h : z = ("lost" : Str)
      · subst h; rfl
      · rw [if_neg h]
    rw [hm] at hF
    exact hret _ _ _ hF N
end

/-! Seg6 -/
section
/-- the rows whose own wire is odd, as powers of two -/
noncomputable def ownL (W : Nat → Nat → Int) : List Int := ((List.range 4).filter fun r => decide (Int.fmod (W r r) 2 = 1)).map fun r => (2 : Int) ^ r
local macro_rules | `(tactic| walk_at $s:str) => kP s [("eval Name", kA ``nameX_LA)]
theorem seg_own : ∀ (w : World) (loose : List Str) (mean : ExcName → Option Value) (mg mb : Str → Option Value) (dp un : Nat) (gd : Option (List Code)) (a : Addr) (ccd : Value) (outer : List Env) (A₀ : Around) (base h₀ : Heap) (L : Addr) (m : Str → Option Value) (s : Shared) (Q : Flow → Shared → Prop) (E : Value → Shared → Prop)
    (lw : Addr) (nw : Nat) (oE : Obj) (ra : Nat → Addr) (W : Nat → Nat → Int) (wt : Nat → Nat → Tok) (rest : List (Addr × Obj)) (sc : Scope) (hsc : sc = lawSc) (st : Stmt) (hst : st = nthS (bodyOf lawDef) 7),
    Site w (hd.heap_39 w.params) loose mean mg mb dp un sc outer A₀ base h₀ L m 60 s →
    News h₀ L s.heap ((L + 1, oE) :: (lw, lstN [.ref (ra 0), .ref (ra 1), .ref (ra 2), .ref (ra 3)] nw) :: rest) → oE.data = .cell (some (.ref lw)) →
    (∀ r, r < 4 → ∃ n, (ra r, lstN (wRow W wt r) n) ∈ rest) → 
    (∀ (h' : Heap) (tk' : Nat) (t : Tok), Fr h₀ L h' (fun z => if z = ("own" : Str) then some (.int (ownL W).sum t) else m z) → News h₀ L h' ((L + 1, oE) :: (lw, lstN [.ref (ra 0), .ref (ra 1), .ref (ra 2), .ref (ra 3)] nw) :: rest) →
      Q .next { s with heap := h', toks := tk' }) →
      wpAny (model PySem.Challenge.rw_zo0006_01.row.prog w) (lawTop dp un gd sc L a ccd outer) (exec st (lawEnv sc L a ccd)) Q E s := by
  k_fill
  w_top off
  intro w loose mean mg mb dp un gd a ccd outer A₀ base h₀ L m s Q E lw nw oE ra W wt rest sc hsc st hst S N hoE hrow hret
  conv at hsc => rhs; whnf
  conv at hst => rhs; whnf
  subst hsc
  subst hst
  obtain ⟨hB, hF, hK, hT, hk, hdp, hun⟩ := S
  k_steps
  unfold Hold
  rename Fr h₀ _ _ _ => F3
  rename News h₀ _ _ _ => N3
  refine restT (fun r => decide (Int.fmod (W r r) 2 = 1)) (fun r v => ∃ t, v = .int ((2 : Int) ^ r) t) trivial ?_ ?_
  · intro r v I oI C oC D m₂ ys h tk E' hj hv hC hx F4 N4 off ne
    obtain ⟨t, rfl⟩ := hv
    clear F3 N3
    obtain ⟨n4, hrow4⟩ := hrow r hj
    have hm4 : (ra r, lstN (wRow W wt r) n4) ∈ (I, oI) :: (C, oC) :: (D, LCg.lst ys) :: (L + 1, oE) :: (lw, lstN [.ref (ra 0), .ref (ra 1), .ref (ra 2), .ref (ra 3)] nw) :: rest := by simp [hrow4]
    have hpw : (0 : Int) + (r : Int) = ((r : Nat) : Int) := by omega
    have e1 := at_ref (ra := ra) hj
    have e2 := at_row (W := W) (wt := wt) (r := r) hj
    rw [← hpw] at e1 e2
    have hp64 : r ≤ 64 := by omega
    k_steps
    · exact ⟨_, _, rfl, F4, N4, _, rfl⟩
    · exact ⟨_, _, rfl, F4, N4, trivial⟩
  intro ys hys D h tk F4 N4 o4
  clear F3 N3
  have hI : IntsAre ys (ownL W) := paired_intsF hys
  dsimp only
  k_steps
  rename Fr h₀ _ _ _ => F9
  rename News h₀ _ _ _ => N9
  exact hret _ _ _ F9 (fun p hp => N9 p (.tail _ hp))

section
variable {prog : Program} {w : World} {A : Around} {E : Value → Shared → Prop} {s : Shared}
theorem in_list_true {l : Addr} {vs : List Value} {ys : List Str} {k : Str} {t : Tok} {Q : Value → Shared → Prop} (hl : s.heap.IsList l vs.toArray := by is_list) (hi : StrsAre vs ys := by assumption) (hk : k ∈ ys := by assumption)
    (h : Q (.bool true) s) : wpAny (model prog w) A (compareOp .In (.str k t) (.ref l)) Q E s := by
  refine in_list_strs hl hi ?_
  have : ys.any (· == k) = true := List.any_eq_true.mpr ⟨k, hk, by simp⟩
  rw [this]; exact h
end
local macro_rules | `(tactic| walk_at $s:str) => kP s [("compareOp In str ref", kA ``in_list_true)]
theorem seg_ret : ∀ (w : World) (loose : List Str) (mean : ExcName → Option Value) (mg mb : Str → Option Value) (dp un : Nat) (gd : Option (List Code)) (a : Addr) (ccd : Value) (outer : List Env) (A₀ : Around) (base h₀ : Heap) (L : Addr) (m : Str → Option Value) (s : Shared) (Q : Flow → Shared → Prop) (E : Value → Shared → Prop)
    (lf lp : Addr) (nl np : Nat) (lvs : List Value) (ls : List Str) (p2 : Str) (pt : Nat → Tok) (o : Int) (to : Tok) (rest : List (Addr × Obj)) (sc : Scope) (hsc : sc = lawSc) (st : Stmt) (hst : st = nthS (bodyOf lawDef) 8),
    Site w (hd.heap_39 w.params) loose mean mg mb dp un sc outer A₀ base h₀ L m 60 s →
    News h₀ L s.heap ((lf, lstN lvs nl) :: (lp, lstN (piecesL p2 pt) np) :: rest) → m "lefts" = some (.ref lf) → m "pieces" = some (.ref lp) → m "own" = some (.int o to) → 0 ≤ o → o < 16 → p2.length ≤ 2 → 
    StrsAre lvs ls → ls.length = 16 → Txt.join (Str.ofString "") (restL o [Str.ofString "a", Str.ofString "(", p2, Str.ofString "\\\\"]) ∈ ls → sharesB ls [Str.ofString "a", Str.ofString "(", p2, Str.ofString "\\\\"] = true →
    (∀ (h' : Heap) (tk' : Nat), (∀ b o, s.heap.get? b = some o → h'.get? b = some o) → Q (.ret (.bool true)) { s with heap := h', toks := tk' }) →
      wpAny (model PySem.Challenge.rw_zo0006_01.row.prog w) (lawTop dp un gd sc L a ccd outer) (exec st (lawEnv sc L a ccd)) Q E s := by
  k_fill
  w_top off
  intro w loose mean mg mb dp un gd a ccd outer A₀ base h₀ L m s Q E lf lp nl np lvs ls p2 pt o to rest sc hsc st hst S N hml hmp hmo ho0 ho1 hp2 hls hl16 hin hsh hret
  conv at hsc => rhs; whnf
  conv at hst => rhs; whnf
  subst hsc
  subst hst
  obtain ⟨hB, hF, hK, hT, hk, hdp, hun⟩ := S
  k_steps
  unfold Hold
  refine c_rest _ _ _ _ _ _ _ _ _ _ _ _ _ _ _ _ _ _ _ _ _ _ lp _ _ (Str.ofString "a") (Str.ofString "(") p2 (Str.ofString "\\\\") (pt 0) (pt 1) (pt 2) (pt 3) ⟨hB, hF, hK, hT, rfl, room0 (by assumption) (by decide), room0 (by assumption) (by decide)⟩ ⟨_, (N (lp, lstN (piecesL p2 pt) np) (by simp)).1, rfl, _, rfl⟩ ho0 ho1 (by decide +kernel) (by decide +kernel) hp2 (by decide +kernel) ?_
  intro h7 tk7 t7 up7
  have F7 := hF.keeps up7
  have N7 := N.grown up7
  clear hF N
  k_steps
  unfold Hold
  refine c_shares _ _ _ _ _ _ _ _ _ _ _ _ _ _ _ _ _ _ _ _ _ _ lf lp nl lvs ls (Str.ofString "a") (Str.ofString "(") p2 (Str.ofString "\\\\") (pt 0) (pt 1) (pt 2) (pt 3) ⟨hB, F7, hK, hT, rfl, room0 (by assumption) (by decide), room0 (by assumption) (by decide)⟩ (N7 (lf, lstN lvs nl) (by simp)).1 hls hl16 ⟨_, (N7 (lp, lstN (piecesL p2 pt) np) (by simp)).1, rfl, _, rfl⟩ (by decide +kernel) (by decide +kernel) hp2 (by decide +kernel) ?_
  intro h8 tk8 up8
  rw [hsh]
  k_steps
  exact hret _ _ (fun b o e => up8 b o (up7 b o e))
end

/-! PlainC -/
section
noncomputable def num4 (a b c d : Bool) : Nat := a.toNat + 2 * b.toNat + 4 * c.toNat + 8 * d.toNat
/-- the sum of the members' rows, by evenness -/
noncomputable def xorS (B : Nat → Nat → Bool) (i c : Nat) : Bool := (mems i).foldr (fun r acc => B r c ^^ acc) false
noncomputable def lostB (B : Nat → Nat → Bool) (i : Nat) : Nat := num4 (xorS B i 0) (xorS B i 1) (xorS B i 2) (xorS B i 3)
noncomputable def ownB (B : Nat → Nat → Bool) : Nat := num4 (B 0 0) (B 1 1) (B 2 2) (B 3 3)
noncomputable def dueN (q : List Nat) (lost : Nat) : Nat := if q.any (fun c => !evenP (lost &&& c)) then 0 else q.length
noncomputable def checkB (L : List Nat) (own : Nat) : Bool := L.any (· == own) && (let q := (List.range 16).filter fun c => L.getD c 0 == 0; (List.range 16).all fun lost => (L.filter (· == lost)).length == dueN q lost)
noncomputable def bsym (b00 b01 b02 b03 b11 b12 b13 b22 b23 b33 : Bool) (i j : Nat) : Bool := match min i j, max i j with
  | 0, 0 => b00 | 0, 1 => b01 | 0, 2 => b02 | 0, 3 => b03 | 1, 1 => b11 | 1, 2 => b12 | 1, 3 => b13 | 2, 2 => b22 | 2, 3 => b23 | _, _ => b33
noncomputable def rowsB (r0 r1 r2 r3 : Nat) : List Nat := [0, r0, r1, r0 ^^^ r1, r2, r0 ^^^ r2, r1 ^^^ r2, r0 ^^^ r1 ^^^ r2, r3, r0 ^^^ r3, r1 ^^^ r3, r0 ^^^ r1 ^^^ r3, r2 ^^^ r3, r0 ^^^ r2 ^^^ r3, r1 ^^^ r2 ^^^ r3, r0 ^^^ r1 ^^^ r2 ^^^ r3]
noncomputable def allB (b00 b01 b02 b03 b11 b12 b13 b22 b23 b33 : Bool) : Bool := checkB (rowsB (num4 b00 b01 b02 b03) (num4 b01 b11 b12 b13) (num4 b02 b12 b22 b23) (num4 b03 b13 b23 b33)) (num4 b00 b11 b22 b33)
theorem all0 : ∀ b03 b11 b12 b13 b22 b23 b33 : Bool, allB false false false b03 b11 b12 b13 b22 b23 b33 = true := by decide +kernel
theorem all1 : ∀ b03 b11 b12 b13 b22 b23 b33 : Bool, allB true false false b03 b11 b12 b13 b22 b23 b33 = true := by decide +kernel
theorem all2 : ∀ b03 b11 b12 b13 b22 b23 b33 : Bool, allB false true false b03 b11 b12 b13 b22 b23 b33 = true := by decide +kernel
theorem all3 : ∀ b03 b11 b12 b13 b22 b23 b33 : Bool, allB true true false b03 b11 b12 b13 b22 b23 b33 = true := by decide +kernel
theorem all4 : ∀ b03 b11 b12 b13 b22 b23 b33 : Bool, allB false false true b03 b11 b12 b13 b22 b23 b33 = true := by decide +kernel
theorem all5 : ∀ b03 b11 b12 b13 b22 b23 b33 : Bool, allB true false true b03 b11 b12 b13 b22 b23 b33 = true := by decide +kernel
theorem all6 : ∀ b03 b11 b12 b13 b22 b23 b33 : Bool, allB false true true b03 b11 b12 b13 b22 b23 b33 = true := by decide +kernel
theorem all7 : ∀ b03 b11 b12 b13 b22 b23 b33 : Bool, allB true true true b03 b11 b12 b13 b22 b23 b33 = true := by decide +kernel
theorem all_ok (b00 b01 b02 b03 b11 b12 b13 b22 b23 b33 : Bool) : allB b00 b01 b02 b03 b11 b12 b13 b22 b23 b33 = true := by
  cases b00 <;> cases b01 <;> cases b02
  · exact all0 _ _ _ _ _ _ _
  · exact all4 _ _ _ _ _ _ _
  · exact all2 _ _ _ _ _ _ _
  · exact all6 _ _ _ _ _ _ _
  · exact all1 _ _ _ _ _ _ _
  · exact all5 _ _ _ _ _ _ _
  · exact all3 _ _ _ _ _ _ _
  · exact all7 _ _ _ _ _ _ _
theorem num4_xor : ∀ a b c d a' b' c' d' : Bool, num4 a b c d ^^^ num4 a' b' c' d' = num4 (a ^^ a') (b ^^ b') (c ^^ c') (d ^^ d') := by decide +kernel
theorem num4_lt (a b c d : Bool) : num4 a b c d < 16 := by cases a <;> cases b <;> cases c <;> cases d <;> decide
theorem lostB_fold (B : Nat → Nat → Bool) : ∀ l : List Nat, num4 (l.foldr (fun r acc => B r 0 ^^ acc) false) (l.foldr (fun r acc => B r 1 ^^ acc) false) (l.foldr (fun r acc => B r 2 ^^ acc) false) (l.foldr (fun r acc => B r 3 ^^ acc) false)
    = l.foldr (fun r acc => num4 (B r 0) (B r 1) (B r 2) (B r 3) ^^^ acc) 0
  | [] => rfl
  | r :: l => by
    simp only [List.foldr_cons]
    rw [← lostB_fold B l, num4_xor]
theorem lostB_eq (B : Nat → Nat → Bool) (i : Nat) : lostB B i = (mems i).foldr (fun r acc => num4 (B r 0) (B r 1) (B r 2) (B r 3) ^^^ acc) 0 := lostB_fold B (mems i)
theorem range16 : List.range 16 = [0, 1, 2, 3, 4, 5, 6, 7, 8, 9, 10, 11, 12, 13, 14, 15] := by decide
theorem mems0 : mems 0 = [] := by decide
theorem mems1 : mems 1 = [0] := by decide
theorem mems2 : mems 2 = [1] := by decide
theorem mems3 : mems 3 = [0, 1] := by decide
theorem mems4 : mems 4 = [2] := by decide
theorem mems5 : mems 5 = [0, 2] := by decide
theorem mems6 : mems 6 = [1, 2] := by decide
theorem mems7 : mems 7 = [0, 1, 2] := by decide
theorem mems8 : mems 8 = [3] := by decide
theorem mems9 : mems 9 = [0, 3] := by decide
theorem mems10 : mems 10 = [1, 3] := by decide
theorem mems11 : mems 11 = [0, 1, 3] := by decide
theorem mems12 : mems 12 = [2, 3] := by decide
theorem mems13 : mems 13 = [0, 2, 3] := by decide
theorem mems14 : mems 14 = [1, 2, 3] := by decide
theorem mems15 : mems 15 = [0, 1, 2, 3] := by decide
theorem rows_are (B : Nat → Nat → Bool) : (List.range 16).map (lostB B) = rowsB (num4 (B 0 0) (B 0 1) (B 0 2) (B 0 3)) (num4 (B 1 0) (B 1 1) (B 1 2) (B 1 3)) (num4 (B 2 0) (B 2 1) (B 2 2) (B 2 3)) (num4 (B 3 0) (B 3 1) (B 3 2) (B 3 3)) := by
  rw [range16]
  simp only [List.map_cons, List.map_nil, lostB_eq, mems0, mems1, mems2, mems3, mems4, mems5, mems6, mems7, mems8, mems9, mems10, mems11, mems12, mems13, mems14, mems15, List.foldr_cons, List.foldr_nil]
  generalize num4 (B 0 0) (B 0 1) (B 0 2) (B 0 3) = r0
  generalize num4 (B 1 0) (B 1 1) (B 1 2) (B 1 3) = r1
  generalize num4 (B 2 0) (B 2 1) (B 2 2) (B 2 3) = r2
  generalize num4 (B 3 0) (B 3 1) (B 3 2) (B 3 3) = r3
  simp only [rowsB, Nat.xor_zero, Nat.xor_assoc]
theorem check_ok {B : Nat → Nat → Bool} (hs : ∀ i j, B i j = B j i) : checkB ((List.range 16).map (lostB B)) (ownB B) = true := by
  rw [rows_are, hs 1 0, hs 2 0, hs 3 0, hs 2 1, hs 3 1, hs 3 2]
  exact all_ok (B 0 0) (B 0 1) (B 0 2) (B 0 3) (B 1 1) (B 1 2) (B 1 3) (B 2 2) (B 2 3) (B 3 3)
theorem own_in {B : Nat → Nat → Bool} (hs : ∀ i j, B i j = B j i) : ownB B ∈ (List.range 16).map (lostB B) := by
  have := check_ok hs
  unfold checkB at this
  rw [Bool.and_eq_true] at this
  obtain ⟨x, hx, e⟩ := List.any_eq_true.mp this.1
  have e : x = ownB B := by simpa using e
  exact e ▸ hx
theorem lost_count {B : Nat → Nat → Bool} (hs : ∀ i j, B i j = B j i) {lost : Nat} (hl : lost < 16) : (((List.range 16).map (lostB B)).filter (· == lost)).length = dueN ((List.range 16).filter fun c => ((List.range 16).map (lostB B)).getD c 0 == 0) lost := by
  have := check_ok hs
  unfold checkB at this
  rw [Bool.and_eq_true] at this
  have := List.all_eq_true.mp this.2 lost (List.mem_range.mpr hl)
  simpa using this
/-- oddness of the wires -/
noncomputable def oddW (W : Nat → Nat → Int) (i j : Nat) : Bool := decide (W i j % 2 = 1)
theorem odd_sum (W : Nat → Nat → Int) (c : Nat) : ∀ l : List Nat, decide ((l.map fun r => W r c).sum % 2 = 1) = l.foldr (fun r acc => oddW W r c ^^ acc) false
  | [] => rfl
  | r :: l => by
    have ih := odd_sum W c l
    rw [List.map_cons, List.sum_cons, List.foldr_cons, ← ih]
    exact odd_add _ _
theorem colS_odd (W : Nat → Nat → Int) (i c : Nat) : decide (colS W i c % 2 = 1) = xorS (oddW W) i c := odd_sum W c (mems i)
/-- what a choice loses -/
noncomputable def lostW (W : Nat → Nat → Int) (i : Nat) : Nat := lostB (oddW W) i
theorem lostW_lt (W : Nat → Nat → Int) (i : Nat) : lostW W i < 16 := num4_lt _ _ _ _
theorem num4_bits : ∀ a b c d : Bool, num4 a b c d / 2 ^ 0 % 2 = a.toNat ∧ num4 a b c d / 2 ^ 1 % 2 = b.toNat ∧ num4 a b c d / 2 ^ 2 % 2 = c.toNat ∧ num4 a b c d / 2 ^ 3 % 2 = d.toNat := by decide +kernel
end

/-! PlainD -/
section
theorem bit0_eq (k j : Nat) : decide (Int.fmod (Int.fdiv (k : Int) (2 ^ j)) 2 = 0) = decide (k / 2 ^ j % 2 = 0) := by
  have h1 : Int.fdiv (k : Int) (2 ^ j) = ((k / 2 ^ j : Nat) : Int) := by
    rw [Int.fdiv_eq_ediv_of_nonneg _ (Int.le_of_lt (pow_pos' j))]
    simp
  rw [h1, Int.fmod_eq_emod_of_nonneg _ (by decide)]
  exact decide_eq_decide.mpr (by omega)
noncomputable def PS (p2 : Str) : List Str := [Str.ofString "a", Str.ofString "(", p2, Str.ofString "\\\\"]
theorem range4 : List.range 4 = [0, 1, 2, 3] := by decide
theorem restS_cp (a b c d : Str) (k : Nat) : cpL (restS [a, b, c, d] k) = (if k / 2 ^ 0 % 2 = 0 then cpL a else []) ++ ((if k / 2 ^ 1 % 2 = 0 then cpL b else []) ++ ((if k / 2 ^ 2 % 2 = 0 then cpL c else []) ++ (if k / 2 ^ 3 % 2 = 0 then cpL d else []))) := by
  unfold restS
  rw [cpL_join]
  unfold restL
  simp only [bit0_eq]
  rw [range4]
  by_cases h0 : k / 2 ^ 0 % 2 = 0 <;> by_cases h1 : k / 2 ^ 1 % 2 = 0 <;> by_cases h2 : k / 2 ^ 2 % 2 = 0 <;> by_cases h3 : k / 2 ^ 3 % 2 = 0 <;>
    simp only [List.filter_cons, List.filter_nil, h0, h1, h2, h3, decide_true, decide_false, if_true, if_false, List.map_cons, List.map_nil, List.flatten_cons, List.flatten_nil, List.getD_cons_zero, List.getD_cons_succ, List.append_nil, List.nil_append, Bool.false_eq_true]
theorem cp_a : cpL (Str.ofString "a") = [97] := by decide +kernel
theorem cp_o : cpL (Str.ofString "(") = [40] := by decide +kernel
theorem cp_c : cpL (Str.ofString "\\)") = [92, 41] := by decide +kernel
theorem cp_q : cpL (Str.ofString "\\\"") = [92, 34] := by decide +kernel
theorem cp_b : cpL (Str.ofString "\\\\") = [92, 92] := by decide +kernel
section
variable {p2 : Str} (h2 : p2 = Str.ofString "\\)" ∨ p2 = Str.ofString "\\\"")
include h2
theorem p2_len : p2.length ≤ 2 := by rcases h2 with rfl | rfl <;> decide +kernel
theorem p2_cp : ∃ c, cpL p2 = [92, c] := by
  rcases h2 with rfl | rfl
  · exact ⟨_, cp_c⟩
  · exact ⟨_, cp_q⟩
theorem restS_inj : ∀ k k' : Fin 16, restS (PS p2) k.val = restS (PS p2) k'.val → k = k' := by
  rcases h2 with rfl | rfl <;> decide +kernel
section
variable {W : Nat → Nat → Int} (hW : ∀ i j, 0 ≤ W i j ∧ W i j ≤ 2) {f i : Nat} (hf : f ≤ 6) (hi : i < 16)
include hW hf hi
theorem tab_at {c : Nat} (hc : c < 4) : (lookI (tabP W f i) (nmOf (f + c))).getD 0 = colS W i c := val_tab hW hf hi hc
theorem tab_nonneg (k : Str) : 0 ≤ (lookI (tabP W f i) k).getD 0 := (val_bound hW hf hi k).1
theorem text_end : endE (cpL (textF (fun r => nmOf (f + r)) p2 (tabP W f i))) false = false := by
  obtain ⟨c, hc⟩ := p2_cp h2
  have n := tab_nonneg h2 hW hf hi
  refine end_four (n _) (n _) (n _) (n _) ?_ ?_ ?_ ?_
  · rw [cp_a]; exact fun r => rfl
  · rw [cp_o]; exact fun r => rfl
  · rw [hc]; exact fun r => rfl
  · rw [cp_b]; exact fun r => rfl
theorem text_len : (textF (fun r => nmOf (f + r)) p2 (tabP W f i)).length ≤ 200 := by
  have n := tab_nonneg h2 hW hf hi
  have b := fun k => (val_bound hW hf hi k).2
  exact len_four (n _) (n _) (n _) (n _) (b _) (b _) (b _) (b _) (by decide +kernel) (by decide +kernel) (p2_len h2) (by decide +kernel)
theorem left_is : stripF (textF (fun r => nmOf (f + r)) p2 (tabP W f i)) = restS (PS p2) (lostW W i) := by
  obtain ⟨c, hc⟩ := p2_cp h2
  have n := tab_nonneg h2 hW hf hi
  refine cpL_inj ?_
  unfold PS
  rw [restS_cp]
  have key := strip_four (p0 := Str.ofString "a") (p1 := Str.ofString "(") (p2 := p2) (p3 := Str.ofString "\\\\") (n (nmOf (f + 0))) (n (nmOf (f + 1))) (n (nmOf (f + 2))) (n (nmOf (f + 3)))
    (by rw [cp_a]; exact piece_plain (by decide) (by decide)) (by rw [cp_o]; exact piece_plain (by decide) (by decide)) (by rw [hc]; exact piece_hid _) (by rw [cp_b]; exact piece_hid _)
  refine key.trans ?_
  have hb := num4_bits (xorS (oddW W) i 0) (xorS (oddW W) i 1) (xorS (oddW W) i 2) (xorS (oddW W) i 3)
  have e : ∀ (x : Nat) (z : Int) (b : Bool) (p : List Nat), x = b.toNat → 0 ≤ z → decide (z % 2 = 1) = b → (if z.toNat % 2 = 1 then [] else p) = (if x = 0 then p else []) := by
    intro x z b p hx hz hzb
    subst hx
    cases b with
    | true =>
      have : z.toNat % 2 = 1 := odd_toNat (by assumption) ▸ of_decide_eq_true hzb
      simp [this]
    | false =>
      have : ¬ z.toNat % 2 = 1 := odd_toNat (by assumption) ▸ of_decide_eq_false hzb
      simp [this]
  have m := fun k => (val_bound hW hf hi k).1
  rw [e _ _ _ (cpL (Str.ofString "a")) hb.1 (n (nmOf (f + 0))) (by rw [tab_at h2 hW hf hi (c := 0) (by decide)]; exact colS_odd W i 0),
    e _ _ _ (cpL (Str.ofString "(")) hb.2.1 (n (nmOf (f + 1))) (by rw [tab_at h2 hW hf hi (c := 1) (by decide)]; exact colS_odd W i 1),
    e _ _ _ (cpL p2) hb.2.2.1 (n (nmOf (f + 2))) (by rw [tab_at h2 hW hf hi (c := 2) (by decide)]; exact colS_odd W i 2),
    e _ _ _ (cpL (Str.ofString "\\\\")) hb.2.2.2 (n (nmOf (f + 3))) (by rw [tab_at h2 hW hf hi (c := 3) (by decide)]; exact colS_odd W i 3)]
  rfl
end
/-- the choices' texts, what is left of them -/
theorem shares_ok {W : Nat → Nat → Int} (hs : ∀ i j, W i j = W j i) : sharesB ((List.range 16).map fun c => restS (PS p2) (lostW W c)) (PS p2) = true := by
  have hB : ∀ i j, oddW W i j = oddW W j i := fun i j => by unfold oddW; rw [hs i j]
  have inj : ∀ k k', k < 16 → k' < 16 → restS (PS p2) k = restS (PS p2) k' → k = k' := fun k k' hk hk' e => congrArg Fin.val (restS_inj h2 ⟨k, hk⟩ ⟨k', hk'⟩ e)
  have cnt : ∀ (x : Str) (l : List Str), PySem.Spec.countIn (.str x) (l.map PyData.str) = ((l.filter (· == x)).length : Int) := by
    intro x l
    induction l with
    | nil => rfl
    | cons y l ih =>
      rw [List.map_cons]
      unfold PySem.Spec.countIn
      rw [ih, List.filter_cons]
      by_cases h : y = x
      · simp [PySem.Spec.same, h]; omega
      · simp [PySem.Spec.same, h]
  have hq : quietL ((List.range 16).map fun c => restS (PS p2) (lostW W c)) (PS p2) = (List.range 16).filter fun c => ((List.range 16).map (lostB (oddW W))).getD c 0 == 0 := by
    unfold quietL
    refine List.filter_congr fun c hc => ?_
    have hc := List.mem_range.mp hc
    have e1 : ((List.range 16).map fun c => restS (PS p2) (lostW W c)).getD c (Str.ofString "") = restS (PS p2) (lostW W c) := by
      rw [List.getD_eq_getElem?_getD, List.getElem?_map, List.getElem?_range hc]; rfl
    have e2 : ((List.range 16).map (lostB (oddW W))).getD c 0 = lostW W c := by
      rw [List.getD_eq_getElem?_getD, List.getElem?_map, List.getElem?_range hc]; rfl
    rw [e1, e2]
    by_cases h : lostW W c = 0
    · simp [h]
    · have : ¬ restS (PS p2) (lostW W c) = restS (PS p2) 0 := fun e => h (inj _ _ (lostW_lt W c) (by decide) e)
      simp [h, this]
  unfold sharesB
  refine List.all_eq_true.mpr fun lost hl => ?_
  have hl := List.mem_range.mp hl
  rw [decide_eq_true_eq, cnt, hq]
  have e3 : (((List.range 16).map fun c => restS (PS p2) (lostW W c)).filter (· == restS (PS p2) lost)).length = (((List.range 16).map (lostB (oddW W))).filter (· == lost)).length := by
    rw [List.filter_map, List.filter_map, List.length_map, List.length_map]
    congr 1
    refine List.filter_congr fun c hc => ?_
    show (restS (PS p2) (lostW W c) == restS (PS p2) lost) = (lostW W c == lost)
    by_cases h : lostW W c = lost
    · rw [h, beq_self_eq_true, beq_self_eq_true]
    · have : ¬ restS (PS p2) (lostW W c) = restS (PS p2) lost := fun e => h (inj _ _ (lostW_lt W c) hl e)
      rw [beq_eq_false_iff_ne.mpr h, beq_eq_false_iff_ne.mpr this]
  rw [e3, lost_count hB hl]
  unfold dueN dueI
  split <;> rfl
theorem own_ok {W : Nat → Nat → Int} (hs : ∀ i j, W i j = W j i) : restS (PS p2) (ownB (oddW W)) ∈ (List.range 16).map fun c => restS (PS p2) (lostW W c) := by
  have hB : ∀ i j, oddW W i j = oddW W j i := fun i j => by unfold oddW; rw [hs i j]
  obtain ⟨c, hc, e⟩ := List.mem_map.mp (own_in hB)
  exact List.mem_map.mpr ⟨c, hc, by show restS (PS p2) (lostB (oddW W) c) = _; rw [e]⟩
end
theorem sum_bits (P : Nat → Prop) [DecidablePred P] : (((List.range 4).filter fun c => decide (P c)).map fun c => (2 : Int) ^ c).sum = (num4 (decide (P 0)) (decide (P 1)) (decide (P 2)) (decide (P 3)) : Nat) := by
  rw [range4]
  by_cases h0 : P 0 <;> by_cases h1 : P 1 <;> by_cases h2 : P 2 <;> by_cases h3 : P 3 <;> simp [List.filter_cons, h0, h1, h2, h3, num4]
theorem fmod_two (z : Int) : (Int.fmod z 2 = 1) = (z % 2 = 1) := by rw [Int.fmod_eq_emod_of_nonneg _ (by decide)]
theorem oddsR_sum (W : Nat → Nat → Int) (r : Nat) : (oddsR W r 4).sum = (num4 (oddW W r 0) (oddW W r 1) (oddW W r 2) (oddW W r 3) : Nat) := by
  unfold oddsR
  simp only [fmod_two]
  exact sum_bits fun c => W r c % 2 = 1
theorem ownL_sum (W : Nat → Nat → Int) : (ownL W).sum = (ownB (oddW W) : Nat) := by
  unfold ownL
  simp only [fmod_two]
  exact sum_bits fun r => W r r % 2 = 1
theorem few_one (W : Nat → Nat → Int) {i r : Nat} (h : mems i = [r]) : (oddsL W (mems i)).sum = (lostW W i : Nat) := by
  unfold lostW
  rw [lostB_eq, h]
  have : oddsL W [r] = oddsR W r 4 := by unfold oddsL; simp
  rw [this, oddsR_sum]
  simp
theorem few_none (W : Nat → Nat → Int) {i : Nat} (h : mems i = []) : (oddsL W (mems i)).sum = (lostW W i : Nat) := by
  unfold lostW
  rw [lostB_eq, h]
  rfl
theorem few_ok (W : Nat → Nat → Int) {i : Nat} (h : (mems i).length < 2) : (oddsL W (mems i)).sum = (lostW W i : Nat) := by
  cases q : mems i with
  | nil => rw [← q]; exact few_none W q
  | cons r l =>
    cases l with
    | nil => rw [← q]; exact few_one W q
    | cons r' l => rw [q] at h; simp at h; omega
end

/-! SegT -/
section
/-- the frame's names in the loop -/
noncomputable def mL (uw ui ub ul : Option Value) (m1 : Str → Option Value) : Str → Option Value := fun z => if z = ("words" : Str) then uw else if z = ("within" : Str) then ui else if z = ("between" : Str) then ub else if z = ("lost" : Str) then ul else m1 z
section
variable {uw ui ub ul x : Option Value} {m1 : Str → Option Value}
theorem mL_words : (fun z => if z = ("words" : Str) then x else mL uw ui ub ul m1 z) = mL x ui ub ul m1 := by
  funext z
  unfold mL
  by_cases h : z = ("words" : Str)
  · rw [if_pos h, if_pos h]
  · rw [if_neg h, if_neg h, if_neg h]
theorem mL_within : (fun z => if z = ("within" : Str) then x else mL uw ui ub ul m1 z) = mL uw x ub ul m1 := by
  funext z
  unfold mL
  by_cases h : z = ("within" : Str)
  · subst h; rfl
  · rw [if_neg h, if_neg h, if_neg h]
theorem mL_between : (fun z => if z = ("between" : Str) then x else mL uw ui ub ul m1 z) = mL uw ui x ul m1 := by
  funext z
  unfold mL
  by_cases h : z = ("between" : Str)
  · subst h; rfl
  · rw [if_neg h, if_neg h, if_neg h]
theorem mL_lost : (fun z => if z = ("lost" : Str) then x else mL uw ui ub ul m1 z) = mL uw ui ub x m1 := by
  funext z
  unfold mL
  by_cases h : z = ("lost" : Str)
  · subst h; rfl
  · rw [if_neg h, if_neg h, if_neg h]
theorem mL_at_words : mL uw ui ub ul m1 ("words" : Str) = uw := rfl
theorem mL_at_within : mL uw ui ub ul m1 ("within" : Str) = ui := rfl
theorem mL_at_between : mL uw ui ub ul m1 ("between" : Str) = ub := rfl
theorem mL_at {y : Str} {v : Option Value} (h : m1 y = v) (h1 : y ≠ ("words" : Str)) (h2 : y ≠ ("within" : Str)) (h3 : y ≠ ("between" : Str)) (h4 : y ≠ ("lost" : Str)) : mL uw ui ub ul m1 y = v := by
  unfold mL
  rw [if_neg h1, if_neg h2, if_neg h3, if_neg h4, h]
end
theorem wordsP_nodup : ∀ (f : Fin 7) (i : Fin 16), (wordsP f.val i.val).Nodup := by decide +kernel
theorem pairs_len : ∀ i : Fin 16, (pairs i.val).length ≤ 16 := by decide +kernel
theorem pairs_bound {W : Nat → Nat → Int} (hW : ∀ i j, 0 ≤ W i j ∧ W i j ≤ 2) {i : Nat} (hi : i < 16) : 0 ≤ ((pairs i).map fun p => W p.1 p.2).sum ∧ ((pairs i).map fun p => W p.1 p.2).sum ≤ 1000 := by
  have key : ∀ l : List (Nat × Nat), 0 ≤ (l.map fun p => W p.1 p.2).sum ∧ (l.map fun p => W p.1 p.2).sum ≤ 2 * (l.length : Int) := by
    intro l
    induction l with
    | nil => simp
    | cons p l ih =>
      have := hW p.1 p.2
      simp only [List.map_cons, List.sum_cons, List.length_cons]
      omega
  have := key (pairs i)
  have := pairs_len ⟨i, hi⟩
  dsimp only at this
  omega
theorem turn_are : turnB = [nthS turnB 0, nthS turnB 1, nthS turnB 2, nthS turnB 3, nthS turnB 4, nthS turnB 5, nthS turnB 6, nthS turnB 7] := by rfl
theorem seg_turn : ∀ (w : World) (loose : List Str) (mean : ExcName → Option Value) (mg mb : Str → Option Value) (dp un : Nat) (gd : Option (List Code)) (a : Addr) (ccd : Value) (outer : List Env) (A₀ : Around) (base h₀ : Heap) (L : Addr) (s : Shared) (Q : Flow → Shared → Prop) (E : Value → Shared → Prop)
    (i f : Nat) (lf dc ln lp lw : Addr) (lvs : List Value) (nl nn np nw : Nat) (oT oM oH oD oE odc : Obj) (kc : List (Str × Value)) (cT cM : Option Value) (tc tf : Tok) (nt pt : Nat → Tok) (ra : Nat → Addr) (W : Nat → Nat → Int) (wt : Nat → Nat → Tok) (p2 : Str) (rest : List (Addr × Obj)) (uw ui ub ul : Option Value) (m1 : Str → Option Value) (sc : Scope) (_ : sc = lawSc) (body : List Stmt) (_ : body = turnB),
    Site w (hd.heap_39 w.params) loose mean mg mb dp un sc outer A₀ base h₀ L (mL uw ui ub ul m1) 60 s →
    News h₀ L s.heap ((lf, lstN lvs nl) :: (L + 1 + 1 + 1 + 1 + 1, oT) :: (L + 1 + 1 + 1 + 1, oM) :: (L + 1 + 1 + 1, oH) :: (dc, odc) :: (ln, lstN (namesL (fun r => nmOf (f + r)) nt) nn) :: (lp, lstN (piecesL p2 pt) np) :: (L + 1 + 1, oD) :: (lw, lstN [.ref (ra 0), .ref (ra 1), .ref (ra 2), .ref (ra 3)] nw) :: (L + 1, oE) :: rest) →
    (∀ p ∈ ((dc, odc) :: (ln, lstN (namesL (fun r => nmOf (f + r)) nt) nn) :: (lp, lstN (piecesL p2 pt) np) :: (L + 1 + 1, oD) :: (lw, lstN [.ref (ra 0), .ref (ra 1), .ref (ra 2), .ref (ra 3)] nw) :: (L + 1, oE) :: rest), p.1 ≠ lf ∧ p.1 ≠ L + 1 + 1 + 1 + 1 ∧ p.1 ≠ L + 1 + 1 + 1 + 1 + 1) → (@Ne Nat lf (L + 1 + 1 + 1 + 1)) → (@Ne Nat lf (L + 1 + 1 + 1 + 1 + 1)) → (@Ne Nat lf (L + 1 + 1 + 1)) →
    oT.data = .cell cT → oM.data = .cell cM → oH.data = .cell (some (.int (0 + (i : Int)) tc)) → oD.data = .cell (some (.int (f : Int) tf)) → oE.data = .cell (some (.ref lw)) →
    m1 "lefts" = some (.ref lf) → m1 "names" = some (.ref ln) → m1 "pieces" = some (.ref lp) → m1 "calls" = some (.ref dc) →
    (∀ r, r < 4 → ∃ n, (ra r, lstN (wRow W wt r) n) ∈ rest) → (dc == sysModules) = false → odc.IsDictOf (strKind PySem.Challenge.rw_zo0006_01.row.prog w) kc →
    (∀ k v, valueAt kc k = some v → ∃ D oD kd, v = .ref D ∧ (D == sysModules) = false ∧ (D, oD) ∈ rest ∧ oD.IsDictOf (strKind PySem.Challenge.rw_zo0006_01.row.prog w) kd ∧ IntKvs kd (rowsF W f k)) → (∀ k, valueAt kc k = none → rowsF W f k = []) →
    i < 16 → f ≤ 6 → (∀ i j, 0 ≤ W i j ∧ W i j ≤ 2) → (∀ i j, W i j = W j i) → (p2 = Str.ofString "\\)" ∨ p2 = Str.ofString "\\\"") → StrsAre lvs ((List.range i).map fun c => restS (PS p2) (lostW W c)) →
    (∀ (h' : Heap) (tk' : Nat) (gs' : Array GenState) (lvs' : List Value) (nl' : Nat) (oTx oMx : Obj) (cTx cMx uw' ui' ub' ul' : Option Value), Fr h₀ L h' (mL uw' ui' ub' ul' m1) →
      News h₀ L h' ((lf, lstN lvs' nl') :: (L + 1 + 1 + 1 + 1 + 1, oTx) :: (L + 1 + 1 + 1 + 1, oMx) :: (L + 1 + 1 + 1, oH) :: (dc, odc) :: (ln, lstN (namesL (fun r => nmOf (f + r)) nt) nn) :: (lp, lstN (piecesL p2 pt) np) :: (L + 1 + 1, oD) :: (lw, lstN [.ref (ra 0), .ref (ra 1), .ref (ra 2), .ref (ra 3)] nw) :: (L + 1, oE) :: rest) → oTx.data = .cell cTx → oMx.data = .cell cMx →
      StrsAre lvs' ((List.range (i + 1)).map fun c => restS (PS p2) (lostW W c)) → (gs' = s.gens ∨ gs' = s.gens.push .finished) → Q .next { s with heap := h', gens := gs', toks := tk' }) →
      wpAny (model PySem.Challenge.rw_zo0006_01.row.prog w) (lawTop dp un gd sc L a ccd outer) (execs body (lawEnv sc L a ccd)) Q E s := by
  intro w loose mean mg mb dp un gd a ccd outer A₀ base h₀ L s Q E i f lf dc ln lp lw lvs nl nn np nw oT oM oH oD oE odc kc cT cM tc tf nt pt ra W wt p2 rest uw ui ub ul m1 sc hsc body hbody S N hC hlM hlT hlH hT0 hM0 hH0 hD0 hE0 hml hmn hmp hmc hrow lodc hdc hrows hnone hi hf hW hs hp2 hlv hret
  subst hbody
  obtain ⟨hB, F, hK, hT, hk, hdp, hun⟩ := S
  rw [turn_are]
  have hCd := fun p hp => (hC p hp).1
  have hCM := fun p hp => (hC p hp).2.1
  have hCT := fun p hp => (hC p hp).2.2
  clear hC
  have hCdR : ∀ p ∈ rest, p.1 ≠ lf := fun p hp => hCd p (.tail _ (.tail _ (.tail _ (.tail _ (.tail _ (.tail _ hp))))))
  have hCMR : ∀ p ∈ rest, p.1 ≠ L + 1 + 1 + 1 + 1 := fun p hp => hCM p (.tail _ (.tail _ (.tail _ (.tail _ (.tail _ (.tail _ hp))))))
  have hCTR : ∀ p ∈ rest, p.1 ≠ L + 1 + 1 + 1 + 1 + 1 := fun p hp => hCT p (.tail _ (.tail _ (.tail _ (.tail _ (.tail _ (.tail _ hp))))))
  have hMH : @Ne Nat (L + 1 + 1 + 1) (L + 1 + 1 + 1 + 1) := by omega
  have hMT : @Ne Nat (L + 1 + 1 + 1 + 1 + 1) (L + 1 + 1 + 1 + 1) := by omega
  have hTM : @Ne Nat (L + 1 + 1 + 1 + 1) (L + 1 + 1 + 1 + 1 + 1) := by omega
  have hTH : @Ne Nat (L + 1 + 1 + 1) (L + 1 + 1 + 1 + 1 + 1) := by omega
  have N0 : News h₀ L s.heap ((L + 1 + 1 + 1 + 1, oM) :: (L + 1 + 1 + 1, oH) :: (lf, lstN lvs nl) :: (L + 1 + 1 + 1 + 1 + 1, oT) :: (dc, odc) :: (ln, lstN (namesL (fun r => nmOf (f + r)) nt) nn) :: (lp, lstN (piecesL p2 pt) np) :: (L + 1 + 1, oD) :: (lw, lstN [.ref (ra 0), .ref (ra 1), .ref (ra 2), .ref (ra 3)] nw) :: (L + 1, oE) :: rest) := news_cons N (mem_at 2 rfl) (news_cons N (mem_at 3 rfl) (news_cons N (mem_at 0 rfl) (news_cons N (mem_at 1 rfl) (news_cons N (mem_at 4 rfl) (news_cons N (mem_at 5 rfl) (news_cons N (mem_at 6 rfl) (news_cons N (mem_at 7 rfl) (news_cons N (mem_at 8 rfl) (news_cons N (mem_at 9 rfl) (news_drop 10 N))))))))))
  refine wpAny_execs_cons ?_
  refine seg_members w loose mean mg mb dp un gd a ccd outer A₀ base h₀ L _ s _ E i oM oH cM tc ((lf, lstN lvs nl) :: (L + 1 + 1 + 1 + 1 + 1, oT) :: (dc, odc) :: (ln, lstN (namesL (fun r => nmOf (f + r)) nt) nn) :: (lp, lstN (piecesL p2 pt) np) :: (L + 1 + 1, oD) :: (lw, lstN [.ref (ra 0), .ref (ra 1), .ref (ra 2), .ref (ra 3)] nw) :: (L + 1, oE) :: rest) sc hsc _ rfl ⟨hB, F, hK, hT, hk, hdp, hun⟩ N0 (off_cons (hMH) (off_cons (hlM) (off_cons (hMT) (off_cons (hCM _ (mem_at 0 rfl)) (off_cons (hCM _ (mem_at 1 rfl)) (off_cons (hCM _ (mem_at 2 rfl)) (off_cons (hCM _ (mem_at 3 rfl)) (off_cons (hCM _ (mem_at 4 rfl)) (off_cons (hCM _ (mem_at 5 rfl)) (hCMR)))))))))) hM0 hH0 hi ?_
  clear F N N0
  intro h1 tk1 Dm my nm oMx F1 N1 dMx hmy hDm
  show wpAny _ _ _ _ _ _
  have N1' : News h₀ L h1 ((L + 1 + 1 + 1, oH) :: (L + 1 + 1, oD) :: (L + 1 + 1 + 1 + 1, oMx) :: (Dm, lstN my nm) :: (lf, lstN lvs nl) :: (L + 1 + 1 + 1 + 1 + 1, oT) :: (dc, odc) :: (ln, lstN (namesL (fun r => nmOf (f + r)) nt) nn) :: (lp, lstN (piecesL p2 pt) np) :: (lw, lstN [.ref (ra 0), .ref (ra 1), .ref (ra 2), .ref (ra 3)] nw) :: (L + 1, oE) :: rest) := news_cons N1 (mem_at 2 rfl) (news_cons N1 (mem_at 8 rfl) (news_cons N1 (mem_at 0 rfl) (news_cons N1 (mem_at 1 rfl) (news_cons N1 (mem_at 3 rfl) (news_cons N1 (mem_at 4 rfl) (news_cons N1 (mem_at 5 rfl) (news_cons N1 (mem_at 6 rfl) (news_cons N1 (mem_at 7 rfl) (news_cons N1 (mem_at 9 rfl) (news_cons N1 (mem_at 10 rfl) (news_drop 11 N1)))))))))))
  refine wpAny_execs_cons ?_
  refine seg_words w loose mean mg mb dp un gd a ccd outer A₀ base h₀ L _ _ _ E i f oD oH tc tf ((L + 1 + 1 + 1 + 1, oMx) :: (Dm, lstN my nm) :: (lf, lstN lvs nl) :: (L + 1 + 1 + 1 + 1 + 1, oT) :: (dc, odc) :: (ln, lstN (namesL (fun r => nmOf (f + r)) nt) nn) :: (lp, lstN (piecesL p2 pt) np) :: (lw, lstN [.ref (ra 0), .ref (ra 1), .ref (ra 2), .ref (ra 3)] nw) :: (L + 1, oE) :: rest) sc hsc _ rfl ⟨hB, F1, hK, hT, hk, hdp, hun⟩ N1' hD0 hH0 hi hf ?_
  clear F1 N1 N1'
  intro h2 tk2 Dw wv nwv F2 N2 hws hDw
  rw [mL_words] at F2
  show wpAny _ _ _ _ _ _
  have N2' : News h₀ L h2 ((L + 1 + 1 + 1 + 1 + 1, oT) :: (Dw, lstN wv nwv) :: (dc, odc) :: (L + 1 + 1 + 1, oH) :: (L + 1 + 1, oD) :: (L + 1 + 1 + 1 + 1, oMx) :: (Dm, lstN my nm) :: (lf, lstN lvs nl) :: (ln, lstN (namesL (fun r => nmOf (f + r)) nt) nn) :: (lp, lstN (piecesL p2 pt) np) :: (lw, lstN [.ref (ra 0), .ref (ra 1), .ref (ra 2), .ref (ra 3)] nw) :: (L + 1, oE) :: rest) := news_cons N2 (mem_at 6 rfl) (news_cons N2 (mem_at 0 rfl) (news_cons N2 (mem_at 7 rfl) (news_cons N2 (mem_at 1 rfl) (news_cons N2 (mem_at 2 rfl) (news_cons N2 (mem_at 3 rfl) (news_cons N2 (mem_at 4 rfl) (news_cons N2 (mem_at 5 rfl) (news_cons N2 (mem_at 8 rfl) (news_cons N2 (mem_at 9 rfl) (news_cons N2 (mem_at 10 rfl) (news_cons N2 (mem_at 11 rfl) (news_drop 12 N2))))))))))))
  refine wpAny_execs_cons ?_
  refine seg_table w loose mean mg mb dp un gd a ccd outer A₀ base h₀ L _ _ _ E i f Dw dc wv nwv oT odc cT kc W ((L + 1 + 1 + 1, oH) :: (L + 1 + 1, oD) :: (L + 1 + 1 + 1 + 1, oMx) :: (Dm, lstN my nm) :: (lf, lstN lvs nl) :: (ln, lstN (namesL (fun r => nmOf (f + r)) nt) nn) :: (lp, lstN (piecesL p2 pt) np) :: (lw, lstN [.ref (ra 0), .ref (ra 1), .ref (ra 2), .ref (ra 3)] nw) :: (L + 1, oE) :: rest) sc hsc _ rfl ⟨hB, F2, hK, hT, hk, hdp, hun⟩ N2' (off_cons (Ne.symm (hDw (L + 1 + 1 + 1 + 1 + 1, oT) (mem_at 5 rfl))) (off_cons (hCT _ (mem_at 0 rfl)) (off_cons (hTH) (off_cons (hCT _ (mem_at 3 rfl)) (off_cons (hTM) (off_cons (Ne.symm (hDm (L + 1 + 1 + 1 + 1 + 1, oT) (mem_at 3 rfl))) (off_cons (hlT) (off_cons (hCT _ (mem_at 1 rfl)) (off_cons (hCT _ (mem_at 2 rfl)) (off_cons (hCT _ (mem_at 4 rfl)) (off_cons (hCT _ (mem_at 5 rfl)) (hCTR)))))))))))) hT0 mL_at_words (mL_at hmc (by decide) (by decide) (by decide) (by decide)) hi hf hws lodc hdc (fun k v e => by
      obtain ⟨D, oD', kd, e1, e2, e3, e4, e5⟩ := hrows k v e
      exact ⟨D, oD', kd, e1, e2, .tail _ (.tail _ (.tail _ (.tail _ (.tail _ (.tail _ (.tail _ (.tail _ (.tail _ (e3))))))))), e4, e5⟩) hnone ?_
  clear F2 N2 N2'
  intro h3 tk3 dt odt oTx kvt F3 N3 dTx lodt ddt itt hdt
  show wpAny _ _ _ _ _ _
  have N3' : News h₀ L h3 ((Dw, lstN wv nwv) :: (dt, odt) :: (L + 1 + 1 + 1 + 1 + 1, oTx) :: (dc, odc) :: (L + 1 + 1 + 1, oH) :: (L + 1 + 1, oD) :: (L + 1 + 1 + 1 + 1, oMx) :: (Dm, lstN my nm) :: (lf, lstN lvs nl) :: (ln, lstN (namesL (fun r => nmOf (f + r)) nt) nn) :: (lp, lstN (piecesL p2 pt) np) :: (lw, lstN [.ref (ra 0), .ref (ra 1), .ref (ra 2), .ref (ra 3)] nw) :: (L + 1, oE) :: rest) := news_cons N3 (mem_at 2 rfl) (news_cons N3 (mem_at 1 rfl) (news_cons N3 (mem_at 0 rfl) (news_cons N3 (mem_at 3 rfl) (news_cons N3 (mem_at 4 rfl) (news_cons N3 (mem_at 5 rfl) (news_cons N3 (mem_at 6 rfl) (news_cons N3 (mem_at 7 rfl) (news_cons N3 (mem_at 8 rfl) (news_cons N3 (mem_at 9 rfl) (news_cons N3 (mem_at 10 rfl) (news_cons N3 (mem_at 11 rfl) (news_cons N3 (mem_at 12 rfl) (news_drop 13 N3)))))))))))))
  refine wpAny_execs_cons ?_
  refine seg_within w loose mean mg mb dp un gd a ccd outer A₀ base h₀ L _ _ _ E Dw dt wv nwv (wordsP f i) odt oTx kvt (tabP W f i) ((dc, odc) :: (L + 1 + 1 + 1, oH) :: (L + 1 + 1, oD) :: (L + 1 + 1 + 1 + 1, oMx) :: (Dm, lstN my nm) :: (lf, lstN lvs nl) :: (ln, lstN (namesL (fun r => nmOf (f + r)) nt) nn) :: (lp, lstN (piecesL p2 pt) np) :: (lw, lstN [.ref (ra 0), .ref (ra 1), .ref (ra 2), .ref (ra 3)] nw) :: (L + 1, oE) :: rest) sc hsc _ rfl ⟨hB, F3, hK, hT, hk, hdp, hun⟩ N3' mL_at_words hws (wordsP_nodup ⟨f, by omega⟩ ⟨i, hi⟩) (wordsP_len ⟨f, by omega⟩ ⟨i, hi⟩).2 dTx ddt itt lodt ?_
  clear F3 N3 N3'
  intro h4 tk4 Dd od kvw iw loDd F4 N4 dDd iDd hsum hDd
  rw [mL_within] at F4
  rw [within_sum hW hf hi, both_ways hs hi] at hsum
  show wpAny _ _ _ _ _ _
  have N4' : News h₀ L h4 ((Dm, lstN my nm) :: (L + 1 + 1 + 1 + 1, oMx) :: (L + 1, oE) :: (lw, lstN [.ref (ra 0), .ref (ra 1), .ref (ra 2), .ref (ra 3)] nw) :: (Dd, od) :: (Dw, lstN wv nwv) :: (dt, odt) :: (L + 1 + 1 + 1 + 1 + 1, oTx) :: (dc, odc) :: (L + 1 + 1 + 1, oH) :: (L + 1 + 1, oD) :: (lf, lstN lvs nl) :: (ln, lstN (namesL (fun r => nmOf (f + r)) nt) nn) :: (lp, lstN (piecesL p2 pt) np) :: rest) := news_cons N4 (mem_at 8 rfl) (news_cons N4 (mem_at 7 rfl) (news_cons N4 (mem_at 13 rfl) (news_cons N4 (mem_at 12 rfl) (news_cons N4 (mem_at 0 rfl) (news_cons N4 (mem_at 1 rfl) (news_cons N4 (mem_at 2 rfl) (news_cons N4 (mem_at 3 rfl) (news_cons N4 (mem_at 4 rfl) (news_cons N4 (mem_at 5 rfl) (news_cons N4 (mem_at 6 rfl) (news_cons N4 (mem_at 9 rfl) (news_cons N4 (mem_at 10 rfl) (news_cons N4 (mem_at 11 rfl) (news_drop 14 N4))))))))))))))
  refine wpAny_execs_cons ?_
  refine seg_between w loose mean mg mb dp un gd a ccd outer A₀ base h₀ L _ _ _ E Dm lw my nm nw i oMx oE ra W wt ((Dd, od) :: (Dw, lstN wv nwv) :: (dt, odt) :: (L + 1 + 1 + 1 + 1 + 1, oTx) :: (dc, odc) :: (L + 1 + 1 + 1, oH) :: (L + 1 + 1, oD) :: (lf, lstN lvs nl) :: (ln, lstN (namesL (fun r => nmOf (f + r)) nt) nn) :: (lp, lstN (piecesL p2 pt) np) :: rest) sc hsc _ rfl ⟨hB, F4, hK, hT, hk, hdp, hun⟩ N4' dMx hE0 (fun r hr => by obtain ⟨n, hn⟩ := hrow r hr; exact ⟨n, .tail _ (.tail _ (.tail _ (.tail _ (.tail _ (.tail _ (.tail _ (.tail _ (.tail _ (.tail _ (hn))))))))))⟩) hmy ?_
  clear F4 N4 N4'
  intro h5 tk5 tb F5 N5
  rw [mL_between] at F5
  show wpAny _ _ _ _ _ _
  have N5' : News h₀ L h5 ((Dd, od) :: (Dm, lstN my nm) :: (L + 1 + 1 + 1 + 1, oMx) :: (L + 1, oE) :: (lw, lstN [.ref (ra 0), .ref (ra 1), .ref (ra 2), .ref (ra 3)] nw) :: (Dw, lstN wv nwv) :: (dt, odt) :: (L + 1 + 1 + 1 + 1 + 1, oTx) :: (dc, odc) :: (L + 1 + 1 + 1, oH) :: (L + 1 + 1, oD) :: (lf, lstN lvs nl) :: (ln, lstN (namesL (fun r => nmOf (f + r)) nt) nn) :: (lp, lstN (piecesL p2 pt) np) :: rest) := news_cons N5 (mem_at 4 rfl) (news_cons N5 (mem_at 0 rfl) (news_cons N5 (mem_at 1 rfl) (news_cons N5 (mem_at 2 rfl) (news_cons N5 (mem_at 3 rfl) (news_cons N5 (mem_at 5 rfl) (news_cons N5 (mem_at 6 rfl) (news_cons N5 (mem_at 7 rfl) (news_cons N5 (mem_at 8 rfl) (news_cons N5 (mem_at 9 rfl) (news_cons N5 (mem_at 10 rfl) (news_cons N5 (mem_at 11 rfl) (news_cons N5 (mem_at 12 rfl) (news_cons N5 (mem_at 13 rfl) (news_drop 14 N5))))))))))))))
  refine wpAny_execs_cons ?_
  refine seg_if w loose mean mg mb dp un gd a ccd outer A₀ base h₀ L _ _ _ E Dm lw Dd my nm nw i oMx oE od kvw iw _ tb ra W wt ((Dw, lstN wv nwv) :: (dt, odt) :: (L + 1 + 1 + 1 + 1 + 1, oTx) :: (dc, odc) :: (L + 1 + 1 + 1, oH) :: (L + 1 + 1, oD) :: (lf, lstN lvs nl) :: (ln, lstN (namesL (fun r => nmOf (f + r)) nt) nn) :: (lp, lstN (piecesL p2 pt) np) :: rest) sc hsc _ rfl ⟨hB, F5, hK, hT, hk, hdp, hun⟩ N5' dMx hE0 (fun r hr => by obtain ⟨n, hn⟩ := hrow r hr; exact ⟨n, .tail _ (.tail _ (.tail _ (.tail _ (.tail _ (.tail _ (.tail _ (.tail _ (.tail _ (hn)))))))))⟩) hmy mL_at_within mL_at_between (pairs_bound hW hi).1 (pairs_bound hW hi).2 loDd dDd iDd hsum ?_
  clear F5 N5 N5'
  intro h6 tk6 F6 N6
  show wpAny _ _ _ _ _ _
  have N6' : News h₀ L h6 ((lf, lstN lvs nl) :: (ln, lstN (namesL (fun r => nmOf (f + r)) nt) nn) :: (lp, lstN (piecesL p2 pt) np) :: (L + 1 + 1 + 1 + 1 + 1, oTx) :: (dt, odt) :: (Dd, od) :: (Dm, lstN my nm) :: (L + 1 + 1 + 1 + 1, oMx) :: (L + 1, oE) :: (lw, lstN [.ref (ra 0), .ref (ra 1), .ref (ra 2), .ref (ra 3)] nw) :: (Dw, lstN wv nwv) :: (dc, odc) :: (L + 1 + 1 + 1, oH) :: (L + 1 + 1, oD) :: rest) := news_cons N6 (mem_at 11 rfl) (news_cons N6 (mem_at 12 rfl) (news_cons N6 (mem_at 13 rfl) (news_cons N6 (mem_at 7 rfl) (news_cons N6 (mem_at 6 rfl) (news_cons N6 (mem_at 0 rfl) (news_cons N6 (mem_at 1 rfl) (news_cons N6 (mem_at 2 rfl) (news_cons N6 (mem_at 3 rfl) (news_cons N6 (mem_at 4 rfl) (news_cons N6 (mem_at 5 rfl) (news_cons N6 (mem_at 8 rfl) (news_cons N6 (mem_at 9 rfl) (news_cons N6 (mem_at 10 rfl) (news_drop 14 N6))))))))))))))
  have hlvl : lvs.length = i := by rw [hlv.length, List.length_map, List.length_range]
  refine wpAny_execs_cons ?_
  refine seg_lefts w loose mean mg mb dp un gd a ccd outer A₀ base h₀ L _ _ _ E lf ln lp dt lvs nl nn np oTx odt kvt (tabP W f i) (fun r => nmOf (f + r)) nt pt p2 ((Dd, od) :: (Dm, lstN my nm) :: (L + 1 + 1 + 1 + 1, oMx) :: (L + 1, oE) :: (lw, lstN [.ref (ra 0), .ref (ra 1), .ref (ra 2), .ref (ra 3)] nw) :: (Dw, lstN wv nwv) :: (dc, odc) :: (L + 1 + 1 + 1, oH) :: (L + 1 + 1, oD) :: rest) sc hsc _ rfl ⟨hB, F6, hK, hT, hk, hdp, hun⟩ N6' (off_cons (hCd _ (mem_at 1 rfl)) (off_cons (hCd _ (mem_at 2 rfl)) (off_cons (ne_symm' hlT) (off_cons (Ne.symm (hdt (lf, lstN lvs nl) (mem_at 7 rfl))) (off_cons (Ne.symm (hDd (lf, lstN lvs nl) (mem_at 8 rfl))) (off_cons (Ne.symm (hDm (lf, lstN lvs nl) (mem_at 2 rfl))) (off_cons (ne_symm' hlM) (off_cons (hCd _ (mem_at 5 rfl)) (off_cons (hCd _ (mem_at 4 rfl)) (off_cons (Ne.symm (hDw (lf, lstN lvs nl) (mem_at 4 rfl))) (off_cons (hCd _ (mem_at 0 rfl)) (off_cons (ne_symm' hlH) (off_cons (hCd _ (mem_at 3 rfl)) (hCdR)))))))))))))) (by rw [hlvl, sizeLine_eq]; omega) (mL_at hml (by decide) (by decide) (by decide) (by decide)) (mL_at hmn (by decide) (by decide) (by decide) (by decide)) (mL_at hmp (by decide) (by decide) (by decide) (by decide)) dTx ddt itt lodt (val_bound hW hf hi) (p2_len hp2) (text_end hp2 hW hf hi) (text_len hp2 hW hf hi) ?_
  clear F6 N6 N6'
  intro h7 tk7 gs7 tx F7 N7 hgs
  show wpAny _ _ _ _ _ _
  have N7' : News h₀ L h7 ((lf, lstN (lvs ++ [.str (stripF (textF (fun r => nmOf (f + r)) p2 (tabP W f i))) tx]) (nl + 1)) :: (lp, lstN (piecesL p2 pt) np) :: (L + 1 + 1 + 1, oH) :: (Dm, lstN my nm) :: (L + 1 + 1 + 1 + 1, oMx) :: (L + 1, oE) :: (lw, lstN [.ref (ra 0), .ref (ra 1), .ref (ra 2), .ref (ra 3)] nw) :: (ln, lstN (namesL (fun r => nmOf (f + r)) nt) nn) :: (L + 1 + 1 + 1 + 1 + 1, oTx) :: (dt, odt) :: (Dd, od) :: (Dw, lstN wv nwv) :: (dc, odc) :: (L + 1 + 1, oD) :: rest) := news_cons N7 (mem_at 0 rfl) (news_cons N7 (mem_at 2 rfl) (news_cons N7 (mem_at 12 rfl) (news_cons N7 (mem_at 6 rfl) (news_cons N7 (mem_at 7 rfl) (news_cons N7 (mem_at 8 rfl) (news_cons N7 (mem_at 9 rfl) (news_cons N7 (mem_at 1 rfl) (news_cons N7 (mem_at 3 rfl) (news_cons N7 (mem_at 4 rfl) (news_cons N7 (mem_at 5 rfl) (news_cons N7 (mem_at 10 rfl) (news_cons N7 (mem_at 11 rfl) (news_cons N7 (mem_at 13 rfl) (news_drop 14 N7))))))))))))))
  have hleft := left_is hp2 hW hf hi
  refine wpAny_execs_cons ?_
  refine seg_few w loose mean mg mb dp un gd a ccd outer A₀ base h₀ L _ _ _ E Dm lw lf lp my _ nm nw (nl + 1) np i oMx oE oH tc tx (stripF (textF (fun r => nmOf (f + r)) p2 (tabP W f i))) p2 pt ra W wt ((ln, lstN (namesL (fun r => nmOf (f + r)) nt) nn) :: (L + 1 + 1 + 1 + 1 + 1, oTx) :: (dt, odt) :: (Dd, od) :: (Dw, lstN wv nwv) :: (dc, odc) :: (L + 1 + 1, oD) :: rest) sc hsc _ rfl ⟨hB, F7, hK, hT, hk, hdp, hun⟩ N7' dMx hE0 hH0 (fun r hr => by obtain ⟨n, hn⟩ := hrow r hr; exact ⟨n, .tail _ (.tail _ (.tail _ (.tail _ (.tail _ (.tail _ (.tail _ (hn)))))))⟩) hmy hi (mL_at hml (by decide) (by decide) (by decide) (by decide)) (mL_at hmp (by decide) (by decide) (by decide) (by decide)) (p2_len hp2) (by rw [← hlvl]; simp) (fun hlt => by
      rw [few_ok W hlt, hleft]
      have := lostW_lt W i
      exact ⟨by omega, by omega, rfl⟩) ?_
  clear F7 N7 N7'
  intro h8 tk8 u F8 N8
  rw [mL_lost] at F8
  show wpAny _ _ _ _ _ _
  refine wpAny_execs_nil ?_
  refine hret h8 _ gs7 (lvs ++ [.str (stripF (textF (fun r => nmOf (f + r)) p2 (tabP W f i))) tx]) (nl + 1) oTx oMx _ _ _ _ _ _ F8 (news_cons N8 (mem_at 0 rfl) (news_cons N8 (mem_at 8 rfl) (news_cons N8 (mem_at 4 rfl) (news_cons N8 (mem_at 2 rfl) (news_cons N8 (mem_at 12 rfl) (news_cons N8 (mem_at 7 rfl) (news_cons N8 (mem_at 1 rfl) (news_cons N8 (mem_at 13 rfl) (news_cons N8 (mem_at 6 rfl) (news_cons N8 (mem_at 5 rfl) (news_drop 14 N8))))))))))) dTx dMx ?_ hgs
  rw [List.range_succ, List.map_append, List.map_singleton, ← hleft]
  exact hlv.append' (.cons _ tx .nil)
end

/-! SegL -/
section
theorem mL_self (m : Str → Option Value) : mL (m ("words" : Str)) (m ("within" : Str)) (m ("between" : Str)) (m ("lost" : Str)) m = m := by
  funext z
  unfold mL
  by_cases h1 : z = ("words" : Str)
  · rw [if_pos h1, h1]
  · by_cases h2 : z = ("within" : Str)
    · rw [if_neg h1, if_pos h2, h2]
    · by_cases h3 : z = ("between" : Str)
      · rw [if_neg h1, if_neg h2, if_pos h3, h3]
      · by_cases h4 : z = ("lost" : Str)
        · rw [if_neg h1, if_neg h2, if_neg h3, if_pos h4, h4]
        · rw [if_neg h1, if_neg h2, if_neg h3, if_neg h4]
/-- what holds between the turns -/
noncomputable def LoopJ (led : List Value → Nat → Obj → Obj → Obj → List (Addr × Obj)) (ls : Nat → List Str) (m1 : Str → Option Value) (i : Nat) (m : Str → Option Value) (nw : List (Addr × Obj)) (gs : Array GenState) : Prop :=
  (∀ x ∈ gs, x.bare = true) ∧ ∃ (lvs : List Value) (nl : Nat) (oT oM oH : Obj) (uw ui ub ul : Option Value) (cT cM cH : Option Value), nw = led lvs nl oT oM oH ∧ oT.data = .cell cT ∧ oM.data = .cell cM ∧ oH.data = .cell cH ∧ StrsAre lvs (ls i) ∧ m = mL uw ui ub ul m1
theorem seg_loop : ∀ (w : World) (loose : List Str) (mean : ExcName → Option Value) (mg mb : Str → Option Value) (dp un : Nat) (gd : Option (List Code)) (a : Addr) (ccd : Value) (outer : List Env) (A₀ : Around) (base h₀ : Heap) (L : Addr) (m1 : Str → Option Value) (s : Shared) (Q : Flow → Shared → Prop) (E : Value → Shared → Prop)
    (lf dc ln lp lw : Addr) (nw f : Nat) (oA oB oC oD oE odc : Obj) (kc : List (Str × Value)) (cA cB cC : Option Value) (tf : Tok) (nt pt : Nat → Tok) (ra : Nat → Addr) (W : Nat → Nat → Int) (wt : Nat → Nat → Tok) (p2 : Str) (RR : List (Addr × Obj)) (sc : Scope) (hsc : sc = lawSc) (st : Stmt) (hst : st = nthS (bodyOf lawDef) 6),
    Site w (hd.heap_39 w.params) loose mean mg mb dp un sc outer A₀ base h₀ L m1 60 s →
    PassesOwn (model PySem.Challenge.rw_zo0006_01.row.prog w) (lawTop dp un gd sc L a ccd outer) (lawEnv sc L a ccd) E →
    News h₀ L s.heap ((lf, lstN [] 0) :: (L + 1 + 1 + 1 + 1 + 1, oA) :: (L + 1 + 1 + 1 + 1, oB) :: (L + 1 + 1 + 1, oC) :: (dc, odc) :: (ln, lstN (namesL (fun r => nmOf (f + r)) nt) 4) :: (lp, lstN (piecesL p2 pt) 0) :: (L + 1 + 1, oD) :: (lw, lstN [.ref (ra 0), .ref (ra 1), .ref (ra 2), .ref (ra 3)] nw) :: (L + 1, oE) :: RR) →
    (∀ p ∈ ((dc, odc) :: (ln, lstN (namesL (fun r => nmOf (f + r)) nt) 4) :: (lp, lstN (piecesL p2 pt) 0) :: (L + 1 + 1, oD) :: (lw, lstN [.ref (ra 0), .ref (ra 1), .ref (ra 2), .ref (ra 3)] nw) :: (L + 1, oE) :: RR), p.1 ≠ lf ∧ p.1 ≠ L + 1 + 1 + 1 + 1 ∧ p.1 ≠ L + 1 + 1 + 1 + 1 + 1 ∧ p.1 ≠ L + 1 + 1 + 1) → (@Ne Nat lf (L + 1 + 1 + 1 + 1)) → (@Ne Nat lf (L + 1 + 1 + 1 + 1 + 1)) → (@Ne Nat lf (L + 1 + 1 + 1)) →
    oA.data = .cell cA → oB.data = .cell cB → oC.data = .cell cC → oD.data = .cell (some (.int (f : Int) tf)) → oE.data = .cell (some (.ref lw)) →
    m1 "lefts" = some (.ref lf) → m1 "names" = some (.ref ln) → m1 "pieces" = some (.ref lp) → m1 "calls" = some (.ref dc) →
    (∀ r, r < 4 → ∃ n, (ra r, lstN (wRow W wt r) n) ∈ RR) → (dc == sysModules) = false → odc.IsDictOf (strKind PySem.Challenge.rw_zo0006_01.row.prog w) kc →
    (∀ k v, valueAt kc k = some v → ∃ D oD kd, v = .ref D ∧ (D == sysModules) = false ∧ (D, oD) ∈ RR ∧ oD.IsDictOf (strKind PySem.Challenge.rw_zo0006_01.row.prog w) kd ∧ IntKvs kd (rowsF W f k)) → (∀ k, valueAt kc k = none → rowsF W f k = []) →
    f ≤ 6 → (∀ i j, 0 ≤ W i j ∧ W i j ≤ 2) → (∀ i j, W i j = W j i) → (p2 = Str.ofString "\\)" ∨ p2 = Str.ofString "\\\"") → (∀ x ∈ s.gens, x.bare = true) →
    (∀ (h' : Heap) (tk' : Nat) (gs' : Array GenState) (lvs : List Value) (nl : Nat) (oT oM oH : Obj) (m' : Str → Option Value), Fr h₀ L h' m' → News h₀ L h' ((lf, lstN lvs nl) :: (L + 1 + 1 + 1 + 1 + 1, oT) :: (L + 1 + 1 + 1 + 1, oM) :: (L + 1 + 1 + 1, oH) :: (dc, odc) :: (ln, lstN (namesL (fun r => nmOf (f + r)) nt) 4) :: (lp, lstN (piecesL p2 pt) 0) :: (L + 1 + 1, oD) :: (lw, lstN [.ref (ra 0), .ref (ra 1), .ref (ra 2), .ref (ra 3)] nw) :: (L + 1, oE) :: RR) → m' "lefts" = some (.ref lf) → m' "pieces" = some (.ref lp) →
      StrsAre lvs ((List.range 16).map fun c => restS (PS p2) (lostW W c)) → (∀ x ∈ gs', x.bare = true) → Q .next { s with heap := h', gens := gs', toks := tk' }) →
      wpAny (model PySem.Challenge.rw_zo0006_01.row.prog w) (lawTop dp un gd sc L a ccd outer) (exec st (lawEnv sc L a ccd)) Q E s := by
  k_fill
  w_top off
  intro w loose mean mg mb dp un gd a ccd outer A₀ base h₀ L m1 s Q E lf dc ln lp lw nw f oA oB oC oD oE odc kc cA cB cC tf nt pt ra W wt p2 RR sc hsc st hst S hE N hOff hlM hlT hlH cA1 cB1 cC1 cD1 cE1 hml hmn hmp hmc hrow lodc hdc hcall hnone hf hW hs hp2 hgs hret
  conv at hsc => rhs; whnf
  conv at hst => rhs; whnf
  subst hsc
  subst hst
  obtain ⟨hB, hF, hK, hT, hk, hdp, hun⟩ := S
  refine For_C hF ?_ (by intro _; rfl)
  k_steps
  unfold Hold
  rename IsRange _ _ _ _ _ _ _ _ => R13
  rename News h₀ _ _ _ => N13
  rename Fr h₀ _ _ _ => F13
  refine iter_rangeG (hE := hE) (n := 16) (by rfl) R13 (by decide) (by rfl) F13 N13 (LoopJ (fun lvs nl oT oM oH => ((lf, lstN lvs nl) :: (L + 1 + 1 + 1 + 1 + 1, oT) :: (L + 1 + 1 + 1 + 1, oM) :: (L + 1 + 1 + 1, oH) :: (dc, odc) :: (ln, lstN (namesL (fun r => nmOf (f + r)) nt) 4) :: (lp, lstN (piecesL p2 pt) 0) :: (L + 1 + 1, oD) :: (lw, lstN [.ref (ra 0), .ref (ra 1), .ref (ra 2), .ref (ra 3)] nw) :: (L + 1, oE) :: RR)) (fun i => ((List.range i).map fun c => restS (PS p2) (lostW W c))) m1) ?_ ?_ ?_
  · exact ⟨hgs, [], 0, oA, oB, oC, _, _, _, _, _, _, _, rfl, cA1, cB1, cC1, .nil, (mL_self m1).symm⟩
  · intro i tv m₁ led h gs tk I oI hi hJ hoff F15 N16
    have hgs := hJ.1
    refine ex12 hJ.2 fun lvs nl oT oM oH uw ui ub ul cT cM cH hq => ?_
    have qb0 := hq.1
    have dT := hq.2.1
    have dM := hq.2.2.1
    have dH := hq.2.2.2.1
    have hlv := hq.2.2.2.2.1
    have qb5 := hq.2.2.2.2.2
    clear hq hJ
    subst qb0
    subst qb5
    clear F13 N13 R13
    have oI4 : @Ne Nat I (L + 1 + 1 + 1 + 1) := Ne.symm (hoff _ (mem_at 2 rfl))
    have oI5 : @Ne Nat I (L + 1 + 1 + 1 + 1 + 1) := Ne.symm (hoff _ (mem_at 1 rfl))
    have oI3 : @Ne Nat I (L + 1 + 1 + 1) := Ne.symm (hoff _ (mem_at 3 rfl))
    have oIl : @Ne Nat I lf := Ne.symm (hoff _ (mem_at 0 rfl))
    have hOffR : ∀ p ∈ RR, p.1 ≠ lf ∧ p.1 ≠ L + 1 + 1 + 1 + 1 ∧ p.1 ≠ L + 1 + 1 + 1 + 1 + 1 ∧ p.1 ≠ L + 1 + 1 + 1 := fun p hp => hOff p (.tail _ (.tail _ (.tail _ (.tail _ (.tail _ (.tail _ (hp)))))))
    have hTH : @Ne Nat (L + 1 + 1 + 1 + 1 + 1) (L + 1 + 1 + 1) := by omega
    have hMH : @Ne Nat (L + 1 + 1 + 1 + 1) (L + 1 + 1 + 1) := by omega
    refine wpAny_assign_Name ?_
    refine storeC_first F15 (c := L + 1 + 1 + 1) (o := oH) (rest := ((I, oI) :: (lf, lstN lvs nl) :: (L + 1 + 1 + 1 + 1 + 1, oT) :: (L + 1 + 1 + 1 + 1, oM) :: (dc, odc) :: (ln, lstN (namesL (fun r => nmOf (f + r)) nt) 4) :: (lp, lstN (piecesL p2 pt) 0) :: (L + 1 + 1, oD) :: (lw, lstN [.ref (ra 0), .ref (ra 1), .ref (ra 2), .ref (ra 3)] nw) :: (L + 1, oE) :: RR)) (news_cons N16 (mem_at 4 rfl) (news_cons N16 (mem_at 0 rfl) (news_cons N16 (mem_at 1 rfl) (news_cons N16 (mem_at 2 rfl) (news_cons N16 (mem_at 3 rfl) (news_cons N16 (mem_at 5 rfl) (news_cons N16 (mem_at 6 rfl) (news_cons N16 (mem_at 7 rfl) (news_cons N16 (mem_at 8 rfl) (news_cons N16 (mem_at 9 rfl) (news_cons N16 (mem_at 10 rfl) (news_drop 11 N16)))))))))))) rfl dH (off_cons (oI3) (off_cons (hlH) (off_cons (hTH) (off_cons (hMH) (off_cons ((hOff _ (mem_at 0 rfl)).2.2.2) (off_cons ((hOff _ (mem_at 1 rfl)).2.2.2) (off_cons ((hOff _ (mem_at 2 rfl)).2.2.2) (off_cons ((hOff _ (mem_at 3 rfl)).2.2.2) (off_cons ((hOff _ (mem_at 4 rfl)).2.2.2) (off_cons ((hOff _ (mem_at 5 rfl)).2.2.2) (fun p hp => (hOffR p hp).2.2.2))))))))))) ?_ rfl rfl
    intro h' oH5 F17 N17 dH5
    clear F15 N16 dH
    have N18 : News h₀ L h' ((lf, lstN lvs nl) :: (L + 1 + 1 + 1 + 1 + 1, oT) :: (L + 1 + 1 + 1 + 1, oM) :: (L + 1 + 1 + 1, oH5) :: (dc, odc) :: (ln, lstN (namesL (fun r => nmOf (f + r)) nt) 4) :: (lp, lstN (piecesL p2 pt) 0) :: (L + 1 + 1, oD) :: (lw, lstN [.ref (ra 0), .ref (ra 1), .ref (ra 2), .ref (ra 3)] nw) :: (L + 1, oE) :: (I, oI) :: RR) := news_cons N17 (mem_at 2 rfl) (news_cons N17 (mem_at 3 rfl) (news_cons N17 (mem_at 4 rfl) (news_cons N17 (mem_at 0 rfl) (news_cons N17 (mem_at 5 rfl) (news_cons N17 (mem_at 6 rfl) (news_cons N17 (mem_at 7 rfl) (news_cons N17 (mem_at 8 rfl) (news_cons N17 (mem_at 9 rfl) (news_cons N17 (mem_at 10 rfl) (news_cons N17 (mem_at 1 rfl) (news_drop 11 N17)))))))))))
    refine seg_turn w _ _ _ _ _ _ _ _ _ _ _ _ _ _ _ _ _ i f lf dc ln lp lw lvs nl 4 0 nw oT oM oH5 oD oE odc kc cT cM _ _ nt pt ra W wt p2 ((I, oI) :: RR) uw ui ub ul m1 _ rfl _ rfl ⟨hB, F17, hK, hT, rfl, hdp, hun⟩ N18 ?_ hlM hlT hlH dT dM dH5 cD1 cE1 hml hmn hmp hmc (fun r hr => by obtain ⟨n, hn⟩ := hrow r hr; exact ⟨n, .tail _ hn⟩) lodc hdc (fun k v e => by
      obtain ⟨D, oD, kd, e1, e2, e3, e4, e5⟩ := hcall k v e
      exact ⟨D, oD, kd, e1, e2, .tail _ e3, e4, e5⟩) hnone hi hf hW hs hp2 hlv ?_
    · exact all_cons ⟨(hOff _ (mem_at 0 rfl)).1, (hOff _ (mem_at 0 rfl)).2.1, (hOff _ (mem_at 0 rfl)).2.2.1⟩ (all_cons ⟨(hOff _ (mem_at 1 rfl)).1, (hOff _ (mem_at 1 rfl)).2.1, (hOff _ (mem_at 1 rfl)).2.2.1⟩ (all_cons ⟨(hOff _ (mem_at 2 rfl)).1, (hOff _ (mem_at 2 rfl)).2.1, (hOff _ (mem_at 2 rfl)).2.2.1⟩ (all_cons ⟨(hOff _ (mem_at 3 rfl)).1, (hOff _ (mem_at 3 rfl)).2.1, (hOff _ (mem_at 3 rfl)).2.2.1⟩ (all_cons ⟨(hOff _ (mem_at 4 rfl)).1, (hOff _ (mem_at 4 rfl)).2.1, (hOff _ (mem_at 4 rfl)).2.2.1⟩ (all_cons ⟨(hOff _ (mem_at 5 rfl)).1, (hOff _ (mem_at 5 rfl)).2.1, (hOff _ (mem_at 5 rfl)).2.2.1⟩ (all_cons ⟨oIl, oI4, oI5⟩ (fun p hp => ⟨(hOffR p hp).1, (hOffR p hp).2.1, (hOffR p hp).2.2.1⟩)))))))
    · intro h9 tk9 gs9 lvs9 nl9 oT9 oM9 cT9 cM9 uw9 ui9 ub9 ul9 F19 N19 dT9 dM9 hlv9 hgs9
      have N20 : News h₀ L h9 ((I, oI) :: (lf, lstN lvs9 nl9) :: (L + 1 + 1 + 1 + 1 + 1, oT9) :: (L + 1 + 1 + 1 + 1, oM9) :: (L + 1 + 1 + 1, oH5) :: (dc, odc) :: (ln, lstN (namesL (fun r => nmOf (f + r)) nt) 4) :: (lp, lstN (piecesL p2 pt) 0) :: (L + 1 + 1, oD) :: (lw, lstN [.ref (ra 0), .ref (ra 1), .ref (ra 2), .ref (ra 3)] nw) :: (L + 1, oE) :: RR) := news_cons N19 (mem_at 10 rfl) (news_cons N19 (mem_at 0 rfl) (news_cons N19 (mem_at 1 rfl) (news_cons N19 (mem_at 2 rfl) (news_cons N19 (mem_at 3 rfl) (news_cons N19 (mem_at 4 rfl) (news_cons N19 (mem_at 5 rfl) (news_cons N19 (mem_at 6 rfl) (news_cons N19 (mem_at 7 rfl) (news_cons N19 (mem_at 8 rfl) (news_cons N19 (mem_at 9 rfl) (news_drop 11 N19)))))))))))
      refine TurnG.intro F19 (news' := ((lf, lstN lvs9 nl9) :: (L + 1 + 1 + 1 + 1 + 1, oT9) :: (L + 1 + 1 + 1 + 1, oM9) :: (L + 1 + 1 + 1, oH5) :: (dc, odc) :: (ln, lstN (namesL (fun r => nmOf (f + r)) nt) 4) :: (lp, lstN (piecesL p2 pt) 0) :: (L + 1 + 1, oD) :: (lw, lstN [.ref (ra 0), .ref (ra 1), .ref (ra 2), .ref (ra 3)] nw) :: (L + 1, oE) :: RR)) N20 (fun q hq => hq) (off_cons (hoff (lf, lstN lvs nl) (mem_at 0 rfl)) (off_cons (hoff (L + 1 + 1 + 1 + 1 + 1, oT) (mem_at 1 rfl)) (off_cons (hoff (L + 1 + 1 + 1 + 1, oM) (mem_at 2 rfl)) (off_cons (hoff (L + 1 + 1 + 1, oH) (mem_at 3 rfl)) (fun q hq => hoff q (.tail _ (.tail _ (.tail _ (.tail _ (hq)))))))))) ⟨?_, lvs9, nl9, oT9, oM9, oH5, uw9, ui9, ub9, ul9, cT9, cM9, _, rfl, dT9, dM9, dH5, hlv9, rfl⟩
      rcases hgs9 with rfl | rfl
      · exact hgs
      · intro x hx
        rcases Array.mem_push.mp hx with hx | rfl
        · exact hgs x hx
        · rfl
  · intro h' gs tk m' led F16 N16 hJ
    have hgs := hJ.1
    refine ex12 hJ.2 fun lvs nl oT oM oH uw ui ub ul cT cM cH hq => ?_
    have qb0 := hq.1
    have dT := hq.2.1
    have dM := hq.2.2.1
    have dH := hq.2.2.2.1
    have hlv := hq.2.2.2.2.1
    have qb5 := hq.2.2.2.2.2
    clear hq hJ
    subst qb0
    subst qb5
    refine wpAny_execs_nil ?_
    exact hret h' tk gs lvs nl oT oM oH _ F16 N16 (mL_at hml (by decide) (by decide) (by decide) (by decide)) (mL_at hmp (by decide) (by decide) (by decide) (by decide)) hlv hgs
end

/-! SegH -/
section
local macro_rules | `(tactic| walk_at $s:str) => kP s [("eval Name", kA ``nameX_LA), ("storeName", kF kX kH)]
theorem seg_h0 : ∀ (w : World) (loose : List Str) (mean : ExcName → Option Value) (mg mb : Str → Option Value) (dp un : Nat) (gd : Option (List Code)) (a : Addr) (ccd : Value) (outer : List Env) (A₀ : Around) (base h₀ : Heap) (L : Addr) (m : Str → Option Value) (s : Shared) (Q : Flow → Shared → Prop) (E : Value → Shared → Prop)
    (l : Addr) (vs : List Value) (ns : List Int) (oE : Obj) (cE : Option Value) (rest : List (Addr × Obj)) (sc : Scope) (hsc : sc = lawSc) (st : Stmt) (hst : st = nthS (bodyOf lawDef) 0),
    Site w (hd.heap_39 w.params) loose mean mg mb dp un sc outer A₀ base h₀ L m 60 s →
    News h₀ L s.heap ((L + 1, oE) :: rest) → (∀ p ∈ rest, p.1 ≠ L + 1) → oE.data = .cell cE → m "script" = some (.ref l) → h₀.IsList l vs.toArray → IntsAre vs ns → ns.length ≤ 63 →
    (∀ (h' : Heap) (tk' : Nat) (lw : Addr) (nw : Nat) (ra : Nat → Addr) (kk : Nat → Nat) (W : Nat → Nat → Int) (wt : Nat → Nat → Tok) (whole : Int) (tw : Tok) (oE' : Obj), Fr h₀ L h' (fun z => if z = ("whole" : Str) then some (.int whole tw) else m z) →
      News h₀ L h' ((L + 1, oE') :: (lw, lstN [.ref (ra 0), .ref (ra 1), .ref (ra 2), .ref (ra 3)] nw) :: (ra 0, lstN (wRow W wt 0) (kk 0)) :: (ra 1, lstN (wRow W wt 1) (kk 1)) :: (ra 2, lstN (wRow W wt 2) (kk 2)) :: (ra 3, lstN (wRow W wt 3) (kk 3)) :: rest) → oE'.data = .cell (some (.ref lw)) → (∀ i j, W i j = W j i) → (∀ i j, 0 ≤ W i j ∧ W i j ≤ 2) → Q .next { s with heap := h', toks := tk' }) →
      wpAny (model PySem.Challenge.rw_zo0006_01.row.prog w) (lawTop dp un gd sc L a ccd outer) (exec st (lawEnv sc L a ccd)) Q E s := by
  k_fill
  w_top off
  intro w loose mean mg mb dp un gd a ccd outer A₀ base h₀ L m s Q E l vs ns oE cE rest sc hsc st hst S N hoff hoE hms hl hns hlen hret
  conv at hsc => rhs; whnf
  conv at hst => rhs; whnf
  subst hsc
  subst hst
  obtain ⟨hB, hF, hK, hT, hk, hdp, hun⟩ := S
  k_steps
  unfold Hold
  refine c_wires _ _ _ _ _ _ _ _ _ _ _ _ _ _ _ _ _ _ _ _ _ _ l vs ns ⟨hB, hF, hK, hT, rfl, room0 (by assumption) (by decide), room0 (by assumption) (by decide)⟩ (hl.at fun o e => hF.keep _ o e) hns hlen ?_
  intro h2 tk2 Tt lw r0 r1 r2 r3 oT ow o0 o1 o2 o3 W whole up2 hsym hrng hoT how R0 R1 R2 R3 hG
  obtain ⟨F2, N2⟩ := news_addL hF N up2 hG
  obtain ⟨c1, d1, t1, sl1⟩ := oT
  obtain ⟨hc1, hs1, hd1, tw, nT, ht1⟩ := hoT
  replace hc1 : c1 = .type "tuple" := hc1
  replace hs1 : sl1 = #[] := hs1
  replace hd1 : d1 = none := hd1
  replace ht1 : t1 = .seq #[.ref lw, .int whole tw] nT := ht1
  subst hc1 hs1 hd1 ht1
  obtain ⟨nw, rfl⟩ := how
  clear hG hF N hns hlen up2
  dsimp only [List.cons_append, List.nil_append] at N2
  obtain ⟨y0, k0, rfl⟩ := R0
  obtain ⟨y1, k1, rfl⟩ := R1
  obtain ⟨y2, k2, rfl⟩ := R2
  obtain ⟨y3, k3, rfl⟩ := R3
  obtain ⟨ra, rfl, rfl, rfl, rfl⟩ : ∃ ra : Nat → Addr, ra 0 = r0 ∧ ra 1 = r1 ∧ ra 2 = r2 ∧ ra 3 = r3 := ⟨fun i => [r0, r1, r2, r3].getD i 0, rfl, rfl, rfl, rfl⟩
  obtain ⟨wt, rfl, rfl, rfl, rfl⟩ : ∃ wt : Nat → Nat → Tok, wt 0 = y0 ∧ wt 1 = y1 ∧ wt 2 = y2 ∧ wt 3 = y3 := ⟨fun i => [y0, y1, y2, y3].getD i y0, rfl, rfl, rfl, rfl⟩
  obtain ⟨kk, rfl, rfl, rfl, rfl⟩ : ∃ kk : Nat → Nat, kk 0 = k0 ∧ kk 1 = k1 ∧ kk 2 = k2 ∧ kk 3 = k3 := ⟨fun i => [k0, k1, k2, k3].getD i 0, rfl, rfl, rfl, rfl⟩
  k_steps
  unfold Hold
  rename Fr h₀ _ _ _ => F3
  rename News h₀ _ _ _ => N3
  have N4 : News h₀ L _ ((L + 1, oE) :: (lw, lstN [.ref (ra 0), .ref (ra 1), .ref (ra 2), .ref (ra 3)] nw) :: (ra 0, lstN (wRow W wt 0) (kk 0)) :: (ra 1, lstN (wRow W wt 1) (kk 1)) :: (ra 2, lstN (wRow W wt 2) (kk 2)) :: (ra 3, lstN (wRow W wt 3) (kk 3)) :: rest) := news_cons N3 (mem_at 6 rfl) (news_cons N3 (mem_at 1 rfl) (news_cons N3 (mem_at 2 rfl) (news_cons N3 (mem_at 3 rfl) (news_cons N3 (mem_at 4 rfl) (news_cons N3 (mem_at 5 rfl) (news_drop 7 N3))))))
  have hc : ∀ (q : Addr × Obj) (k : Nat), ((L + 1, oE) :: (lw, lstN [.ref (ra 0), .ref (ra 1), .ref (ra 2), .ref (ra 3)] nw) :: (ra 0, lstN (wRow W wt 0) (kk 0)) :: (ra 1, lstN (wRow W wt 1) (kk 1)) :: (ra 2, lstN (wRow W wt 2) (kk 2)) :: (ra 3, lstN (wRow W wt 3) (kk 3)) :: rest)[k]? = some q → (∀ u, q.2.data ≠ .cell u) → q.1 ≠ L + 1 := fun q k e hn => cell_ne (v := cE) N4 (.head _) (List.mem_of_getElem? e) hoE hn
  refine storeC_first F3 (c := L + 1) (o := oE) N4 rfl hoE (off_cons (hc _ 1 rfl (fun u e => by cases e)) (off_cons (hc _ 2 rfl (fun u e => by cases e)) (off_cons (hc _ 3 rfl (fun u e => by cases e)) (off_cons (hc _ 4 rfl (fun u e => by cases e)) (off_cons (hc _ 5 rfl (fun u e => by cases e)) hoff))))) ?_ rfl rfl
  clear F3 N3 N4 hc
  intro h4 oE4 F4 N4 cE4
  k_steps
  rename Fr h₀ _ _ _ => F9
  rename News h₀ _ _ _ => N9
  exact hret _ _ lw nw ra kk W wt whole tw oE4 F9 N9 cE4 hsym hrng

theorem seg_h1 : ∀ (w : World) (loose : List Str) (mean : ExcName → Option Value) (mg mb : Str → Option Value) (dp un : Nat) (gd : Option (List Code)) (a : Addr) (ccd : Value) (outer : List Env) (A₀ : Around) (base h₀ : Heap) (L : Addr) (m : Str → Option Value) (s : Shared) (Q : Flow → Shared → Prop) (E : Value → Shared → Prop)
    (whole : Int) (tw : Tok) (oD : Obj) (cD : Option Value) (rest : List (Addr × Obj)) (sc : Scope) (hsc : sc = lawSc) (st : Stmt) (hst : st = nthS (bodyOf lawDef) 1),
    Site w (hd.heap_39 w.params) loose mean mg mb dp un sc outer A₀ base h₀ L m 60 s →
    News h₀ L s.heap ((L + 1 + 1, oD) :: rest) → (∀ p ∈ rest, p.1 ≠ L + 1 + 1) → oD.data = .cell cD → m "whole" = some (.int whole tw) →
    (∀ (h' : Heap) (tk' : Nat) (f : Nat) (tf : Tok) (oD' : Obj), Fr h₀ L h' m → News h₀ L h' ((L + 1 + 1, oD') :: rest) → oD'.data = .cell (some (.int (f : Int) tf)) → f ≤ 6 → Q .next { s with heap := h', toks := tk' }) →
      wpAny (model PySem.Challenge.rw_zo0006_01.row.prog w) (lawTop dp un gd sc L a ccd outer) (exec st (lawEnv sc L a ccd)) Q E s := by
  k_fill
  w_top off
  intro w loose mean mg mb dp un gd a ccd outer A₀ base h₀ L m s Q E whole tw oD cD rest sc hsc st hst S N hoff hoD hmw hret
  conv at hsc => rhs; whnf
  conv at hst => rhs; whnf
  subst hsc
  subst hst
  obtain ⟨hB, hF, hK, hT, hk, hdp, hun⟩ := S
  k_steps
  unfold Hold
  obtain ⟨f, hf, hfe⟩ : ∃ f : Nat, f ≤ 6 ∧ (whole.fdiv 81).fmod 7 = (f : Int) := by
    have h1 : (whole.fdiv 81).fmod 7 = (whole.fdiv 81) % 7 := Int.fmod_eq_emod_of_nonneg _ (by decide)
    obtain ⟨f, hf⟩ := Int.eq_ofNat_of_zero_le (Int.emod_nonneg (whole.fdiv 81) (by decide : (7 : Int) ≠ 0))
    have h2 := Int.emod_lt_of_pos (whole.fdiv 81) (by decide : (0 : Int) < 7)
    exact ⟨f, Nat.le_of_lt_succ (Int.ofNat_lt.mp (hf ▸ h2)), h1.trans hf⟩
  rw [hfe]
  refine storeC_first hF (c := L + 1 + 1) (o := oD) N rfl hoD hoff ?_ rfl rfl
  intro h4 oD4 F4 N4 cD4
  k_steps
  exact hret _ _ f _ oD4 F4 N4 cD4 hf

local macro_rules | `(tactic| walk_at $s:str) => kP s [("eval IfExp", kH)]
theorem seg_h2 : ∀ (w : World) (loose : List Str) (mean : ExcName → Option Value) (mg mb : Str → Option Value) (dp un : Nat) (gd : Option (List Code)) (a : Addr) (ccd : Value) (outer : List Env) (A₀ : Around) (base h₀ : Heap) (L : Addr) (m : Str → Option Value) (s : Shared) (Q : Flow → Shared → Prop) (E : Value → Shared → Prop)
    (whole : Int) (tw : Tok) (rest : List (Addr × Obj)) (sc : Scope) (hsc : sc = lawSc) (st : Stmt) (hst : st = nthS (bodyOf lawDef) 2),
    Site w (hd.heap_39 w.params) loose mean mg mb dp un sc outer A₀ base h₀ L m 60 s →
    News h₀ L s.heap rest → m "whole" = some (.int whole tw) →
    (∀ (h' : Heap) (tk' : Nat) (lp : Addr) (p2 : Str) (pt : Nat → Tok), Fr h₀ L h' (fun z => if z = ("pieces" : Str) then some (.ref lp) else m z) → News h₀ L h' ((lp, lstN (piecesL p2 pt) 0) :: rest) → (p2 = Str.ofString "\\)" ∨ p2 = Str.ofString "\\\"") → Q .next { s with heap := h', toks := tk' }) →
      wpAny (model PySem.Challenge.rw_zo0006_01.row.prog w) (lawTop dp un gd sc L a ccd outer) (exec st (lawEnv sc L a ccd)) Q E s := by
  k_fill
  w_top off
  intro w loose mean mg mb dp un gd a ccd outer A₀ base h₀ L m s Q E whole tw rest sc hsc st hst S N hmw hret
  conv at hsc => rhs; whnf
  conv at hst => rhs; whnf
  subst hsc
  subst hst
  obtain ⟨hB, hF, hK, hT, hk, hdp, hun⟩ := S
  k_steps
  unfold Hold
  refine wpAny_mono (Q := fun v s' => ∃ p2 t tk2, (p2 = Str.ofString "\\)" ∨ p2 = Str.ofString "\\\"") ∧ v = .str p2 t ∧ s' = { s with toks := tk2 }) (IfExp_ ?_) ?_ (fun _ _ x => x)
  · k_steps
    all_goals first
      | exact ⟨_, _, _, .inl rfl, rfl, rfl⟩
      | exact ⟨_, _, _, .inr rfl, rfl, rfl⟩
      | exact .inl rfl
      | exact .inr rfl
  rintro v s' ⟨p2, t2, tk7, hp2, rfl, rfl⟩
  k_steps
  rename Fr h₀ _ _ _ => F9
  rename News h₀ _ _ _ => N9
  generalize hkk : PySem.W.listOf #[_, _, _, _] 0 = op at N9
  have hop : ∃ u0 u1 u3, op = lstN [.str (Str.ofString "a") u0, .str (Str.ofString "(") u1, .str p2 t2, .str (Str.ofString "\\\\") u3] 0 := ⟨_, _, _, hkk.symm⟩
  clear hkk
  obtain ⟨u0, u1, u3, rfl⟩ := hop
  exact hret _ _ _ p2 (fun i => [u0, u1, t2, u3].getD i 0) F9 N9 hp2

local macro_rules
  | `(tactic| walk_at "CompSrc") => `(tactic| ((k_dflt (refine LCg.CompSrc.range (n := 4) (by rfl) (by k_asm) (by k_asm) (by assumption) (by first | decide | rfl) (by first | rfl | decide) (Nat.le_of_ble_eq_true rfl) ?_); intro g'; refine hold ?_)))
  | `(tactic| walk_at $s:str) => kP s [("exec Assign cons ListComp", kW), ("eval ListComp", kL ``LCg.ListComp_U), ("EachL", kI 1 (kB ``eachL_at))]
theorem seg_h3 : ∀ (w : World) (loose : List Str) (mean : ExcName → Option Value) (mg mb : Str → Option Value) (dp un : Nat) (gd : Option (List Code)) (a : Addr) (ccd : Value) (outer : List Env) (A₀ : Around) (base h₀ : Heap) (L : Addr) (m : Str → Option Value) (s : Shared) (Q : Flow → Shared → Prop) (E : Value → Shared → Prop)
    (f : Nat) (tf : Tok) (oD : Obj) (rest : List (Addr × Obj)) (sc : Scope) (hsc : sc = lawSc) (st : Stmt) (hst : st = nthS (bodyOf lawDef) 3),
    Site w (hd.heap_39 w.params) loose mean mg mb dp un sc outer A₀ base h₀ L m 60 s →
    News h₀ L s.heap ((L + 1 + 1, oD) :: rest) → oD.data = .cell (some (.int (f : Int) tf)) → f ≤ 6 →
    (∀ (h' : Heap) (tk' : Nat) (ln : Addr) (nt : Nat → Tok), Fr h₀ L h' (fun z => if z = ("names" : Str) then some (.ref ln) else m z) → News h₀ L h' ((ln, lstN (namesL (fun r => nmOf (f + r)) nt) 4) :: (L + 1 + 1, oD) :: rest) → Q .next { s with heap := h', toks := tk' }) →
      wpAny (model PySem.Challenge.rw_zo0006_01.row.prog w) (lawTop dp un gd sc L a ccd outer) (exec st (lawEnv sc L a ccd)) Q E s := by
  k_fill
  w_top off
  intro w loose mean mg mb dp un gd a ccd outer A₀ base h₀ L m s Q E f tf oD rest sc hsc st hst S N hoD hf hret
  conv at hsc => rhs; whnf
  conv at hst => rhs; whnf
  subst hsc
  subst hst
  obtain ⟨hB, hF, hK, hT, hk, hdp, hun⟩ := S
  k_steps
  unfold Hold
  rename Fr h₀ _ _ _ => F8
  rename News h₀ _ _ _ => N8
  refine restU (fun i v => ∃ t, v = .str (nmOf (f + i)) t) trivial ?_ ?_
  · intro i v I oI C oC D m₂ ys h9 tk9 E' hi hv hC hx F9 N9 off ne
    obtain ⟨t9, rfl⟩ := hv
    clear F8 N8
    have hpw : (f : Int) + (0 + (i : Int)) = ((f + i : Nat) : Int) := by omega
    have hp64 : f + i ≤ 64 := by omega
    have hat := nm_at2 (i := f + i) (by omega)
    have hin := nm_in (i := f + i) (by omega)
    k_steps
    exact ⟨_, _, rfl, F9, N9, _, rfl⟩
  intro ys hys D8 h9 tk9 F9 N9 o9
  clear F8 N8
  obtain ⟨v0, v1, v2, v3, rfl, ⟨nt0, rfl⟩, ⟨nt1, rfl⟩, ⟨nt2, rfl⟩, ⟨nt3, rfl⟩⟩ := paired4 hys
  clear hys
  dsimp only
  k_steps
  rename Fr h₀ _ _ _ => F10
  rename News h₀ _ _ _ => N10
  exact hret _ _ D8 (fun i => [nt0, nt1, nt2, nt3].getD i 0) F10 N10

theorem seg_h4 : ∀ (w : World) (loose : List Str) (mean : ExcName → Option Value) (mg mb : Str → Option Value) (dp un : Nat) (gd : Option (List Code)) (a : Addr) (ccd : Value) (outer : List Env) (A₀ : Around) (base h₀ : Heap) (L : Addr) (m : Str → Option Value) (s : Shared) (Q : Flow → Shared → Prop) (E : Value → Shared → Prop)
    (ln lw : Addr) (f nw : Nat) (nt : Nat → Tok) (ra : Nat → Addr) (kk : Nat → Nat) (W : Nat → Nat → Int) (wt : Nat → Nat → Tok) (oE : Obj) (rest : List (Addr × Obj)) (sc : Scope) (hsc : sc = lawSc) (st : Stmt) (hst : st = nthS (bodyOf lawDef) 4),
    Site w (hd.heap_39 w.params) loose mean mg mb dp un sc outer A₀ base h₀ L m 60 s →
    News h₀ L s.heap ((ln, lstN (namesL (fun r => nmOf (f + r)) nt) 4) :: (L + 1, oE) :: (lw, lstN [.ref (ra 0), .ref (ra 1), .ref (ra 2), .ref (ra 3)] nw) :: (ra 0, lstN (wRow W wt 0) (kk 0)) :: (ra 1, lstN (wRow W wt 1) (kk 1)) :: (ra 2, lstN (wRow W wt 2) (kk 2)) :: (ra 3, lstN (wRow W wt 3) (kk 3)) :: rest) → oE.data = .cell (some (.ref lw)) → m "names" = some (.ref ln) → f ≤ 6 →
    (∀ (h' : Heap) (tk' : Nat) (dc : Addr) (odc : Obj) (kc : List (Str × Value)) (EE : List (Addr × Obj)), Fr h₀ L h' (fun z => if z = ("calls" : Str) then some (.ref dc) else m z) →
      News h₀ L h' ((dc, odc) :: (EE ++ ((ln, lstN (namesL (fun r => nmOf (f + r)) nt) 4) :: (L + 1, oE) :: (lw, lstN [.ref (ra 0), .ref (ra 1), .ref (ra 2), .ref (ra 3)] nw) :: (ra 0, lstN (wRow W wt 0) (kk 0)) :: (ra 1, lstN (wRow W wt 1) (kk 1)) :: (ra 2, lstN (wRow W wt 2) (kk 2)) :: (ra 3, lstN (wRow W wt 3) (kk 3)) :: rest))) → (dc == sysModules) = false → odc.IsDictOf (strKind PySem.Challenge.rw_zo0006_01.row.prog w) kc →
      (∀ k v, valueAt kc k = some v → ∃ D oD kd, v = .ref D ∧ (D == sysModules) = false ∧ (D, oD) ∈ EE ∧ oD.IsDictOf (strKind PySem.Challenge.rw_zo0006_01.row.prog w) kd ∧ IntKvs kd (rowsF W f k)) →
      (∀ k, valueAt kc k = none → rowsF W f k = []) → (∀ p ∈ EE, ∃ kd, p.2.IsDictOf (strKind PySem.Challenge.rw_zo0006_01.row.prog w) kd) → Q .next { s with heap := h', toks := tk' }) →
      wpAny (model PySem.Challenge.rw_zo0006_01.row.prog w) (lawTop dp un gd sc L a ccd outer) (exec st (lawEnv sc L a ccd)) Q E s := by
  k_fill
  w_top off
  intro w loose mean mg mb dp un gd a ccd outer A₀ base h₀ L m s Q E ln lw f nw nt ra kk W wt oE rest sc hsc st hst S N hoE hmn hf hret
  conv at hsc => rhs; whnf
  conv at hst => rhs; whnf
  subst hsc
  subst hst
  obtain ⟨hB, hF, hK, hT, hk, hdp, hun⟩ := S
  k_steps
  unfold Hold
  refine c_calls _ _ _ _ _ _ _ _ _ _ _ _ _ _ _ _ _ _ _ _ _ _ ln lw (fun i => nmOf (f + i)) nt ra W wt ⟨hB, hF, hK, hT, rfl, room0 (by assumption) (by decide), room0 (by assumption) (by decide)⟩ ⟨_, (N _ (.head _)).1, rfl, _, rfl⟩ ⟨_, (N _ (mem_at 2 rfl)).1, rfl, _, rfl⟩ ?_ (fun i j hi hj e => nm_inj hf hi hj e) ?_
  · intro i hi
    have : i = 0 ∨ i = 1 ∨ i = 2 ∨ i = 3 := lt4 (by first | assumption | omega)
    rcases this with rfl | rfl | rfl | rfl
    · exact ⟨_, (N _ (mem_at 3 rfl)).1, rfl, _, rfl⟩
    · exact ⟨_, (N _ (mem_at 4 rfl)).1, rfl, _, rfl⟩
    · exact ⟨_, (N _ (mem_at 5 rfl)).1, rfl, _, rfl⟩
    · exact ⟨_, (N _ (mem_at 6 rfl)).1, rfl, _, rfl⟩
  intro h11 tk11 dc kc up11 lodc frdc hdc hcalls hhas
  have hpick : ∀ r, r < 4 → ∃ (D : Addr) (oD : Obj) (kd : List (Str × Value)), valueAt kc (nmOf (f + r)) = some (.ref D) ∧ (D == sysModules) = false ∧ s.heap.get? D = none ∧ h11.get? D = some oD ∧ oD.IsDictOf (strKind PySem.Challenge.rw_zo0006_01.row.prog w) kd ∧ IntKvs kd (rowL (fun i => nmOf (f + i)) (W r) 4) := by
    intro r hr
    cases hv : valueAt kc (nmOf (f + r)) with
    | none => exact absurd hv (hhas r hr)
    | some v =>
      obtain ⟨r', D, kd, hr', e, rfl, lo, fr, hD, hk⟩ := hcalls _ _ hv
      have : r = r' := nm_inj hf hr hr' e
      subst this
      obtain ⟨oD, hoD, dD⟩ := Heap.dictOf_iff.mp hD
      exact ⟨D, oD, kd, rfl, lo, fr, hoD, dD, hk⟩
  obtain ⟨E0, q0, kd0, va0, lo0, fr0, go0, dd0, ik0⟩ := hpick 0 (by decide)
  obtain ⟨E1, q1, kd1, va1, lo1, fr1, go1, dd1, ik1⟩ := hpick 1 (by decide)
  obtain ⟨E2, q2, kd2, va2, lo2, fr2, go2, dd2, ik2⟩ := hpick 2 (by decide)
  obtain ⟨E3, q3, kd3, va3, lo3, fr3, go3, dd3, ik3⟩ := hpick 3 (by decide)
  obtain ⟨odc, hodc, ddc⟩ := Heap.dictOf_iff.mp hdc
  obtain ⟨F11, N11⟩ := news_addL (G := [(dc, odc), (E0, q0), (E1, q1), (E2, q2), (E3, q3)]) hF N up11 (fun p hp => by
    rcases List.mem_cons.mp hp with rfl | hp
    · exact ⟨hodc, frdc⟩
    rcases List.mem_cons.mp hp with rfl | hp
    · exact ⟨go0, fr0⟩
    rcases List.mem_cons.mp hp with rfl | hp
    · exact ⟨go1, fr1⟩
    rcases List.mem_cons.mp hp with rfl | hp
    · exact ⟨go2, fr2⟩
    rcases List.mem_cons.mp hp with rfl | hp
    · exact ⟨go3, fr3⟩
    cases hp)
  have hrows : ∀ k v, valueAt kc k = some v → ∃ D oD kd, v = .ref D ∧ (D == sysModules) = false ∧ (D, oD) ∈ [(E0, q0), (E1, q1), (E2, q2), (E3, q3)] ∧ oD.IsDictOf (strKind PySem.Challenge.rw_zo0006_01.row.prog w) kd ∧ IntKvs kd (rowsF W f k) := fun k v e => by
    obtain ⟨r, _, _, hr, rfl, _⟩ := hcalls k v e
    rw [rowsF_at hf hr]
    have : r = 0 ∨ r = 1 ∨ r = 2 ∨ r = 3 := lt4 (by first | assumption | omega)
    rcases this with rfl | rfl | rfl | rfl
    · exact ⟨E0, q0, kd0, by rw [va0] at e; exact (Option.some.inj e).symm, lo0, mem_at 0 rfl, dd0, ik0⟩
    · exact ⟨E1, q1, kd1, by rw [va1] at e; exact (Option.some.inj e).symm, lo1, mem_at 1 rfl, dd1, ik1⟩
    · exact ⟨E2, q2, kd2, by rw [va2] at e; exact (Option.some.inj e).symm, lo2, mem_at 2 rfl, dd2, ik2⟩
    · exact ⟨E3, q3, kd3, by rw [va3] at e; exact (Option.some.inj e).symm, lo3, mem_at 3 rfl, dd3, ik3⟩
  have hnone : ∀ k, valueAt kc k = none → rowsF W f k = [] := fun k e => rowsF_none fun r hr q => hhas r hr (q ▸ e)
  have hdict : ∀ p ∈ [(E0, q0), (E1, q1), (E2, q2), (E3, q3)], ∃ kd, p.2.IsDictOf (strKind PySem.Challenge.rw_zo0006_01.row.prog w) kd := fun p hp => by
    rcases List.mem_cons.mp hp with rfl | hp
    · exact ⟨_, dd0⟩
    rcases List.mem_cons.mp hp with rfl | hp
    · exact ⟨_, dd1⟩
    rcases List.mem_cons.mp hp with rfl | hp
    · exact ⟨_, dd2⟩
    rcases List.mem_cons.mp hp with rfl | hp
    · exact ⟨_, dd3⟩
    cases hp
  clear hF N hcalls hhas hpick hdc hodc up11 go0 go1 go2 go3 fr0 fr1 fr2 fr3 frdc va0 va1 va2 va3 dd0 dd1 dd2 dd3 ik0 ik1 ik2 ik3 lo0 lo1 lo2 lo3
  have N12 : News h₀ L h11 ((dc, odc) :: ([(E0, q0), (E1, q1), (E2, q2), (E3, q3)] ++ ((ln, lstN (namesL (fun r => nmOf (f + r)) nt) 4) :: (L + 1, oE) :: (lw, lstN [.ref (ra 0), .ref (ra 1), .ref (ra 2), .ref (ra 3)] nw) :: (ra 0, lstN (wRow W wt 0) (kk 0)) :: (ra 1, lstN (wRow W wt 1) (kk 1)) :: (ra 2, lstN (wRow W wt 2) (kk 2)) :: (ra 3, lstN (wRow W wt 3) (kk 3)) :: rest))) := N11
  clear N11
  generalize [(E0, q0), (E1, q1), (E2, q2), (E3, q3)] = EE at hrows hdict N12
  k_steps
  rename Fr h₀ _ _ _ => F9
  rename News h₀ _ _ _ => N9
  exact hret _ _ dc odc kc EE F9 N9 lodc ddc hrows hnone hdict

theorem seg_h5 : ∀ (w : World) (loose : List Str) (mean : ExcName → Option Value) (mg mb : Str → Option Value) (dp un : Nat) (gd : Option (List Code)) (a : Addr) (ccd : Value) (outer : List Env) (A₀ : Around) (base h₀ : Heap) (L : Addr) (m : Str → Option Value) (s : Shared) (Q : Flow → Shared → Prop) (E : Value → Shared → Prop)
    (rest : List (Addr × Obj)) (sc : Scope) (hsc : sc = lawSc) (st : Stmt) (hst : st = nthS (bodyOf lawDef) 5),
    Site w (hd.heap_39 w.params) loose mean mg mb dp un sc outer A₀ base h₀ L m 60 s →
    News h₀ L s.heap rest →
    (∀ (h' : Heap) (tk' : Nat) (lf : Addr), Fr h₀ L h' (fun z => if z = ("lefts" : Str) then some (.ref lf) else m z) → News h₀ L h' ((lf, lstN [] 0) :: rest) → Q .next { s with heap := h', toks := tk' }) →
      wpAny (model PySem.Challenge.rw_zo0006_01.row.prog w) (lawTop dp un gd sc L a ccd outer) (exec st (lawEnv sc L a ccd)) Q E s := by
  k_fill
  w_top off
  intro w loose mean mg mb dp un gd a ccd outer A₀ base h₀ L m s Q E rest sc hsc st hst S N hret
  conv at hsc => rhs; whnf
  conv at hst => rhs; whnf
  subst hsc
  subst hst
  obtain ⟨hB, hF, hK, hT, hk, hdp, hun⟩ := S
  k_steps
  rename Fr h₀ _ _ _ => F9
  rename News h₀ _ _ _ => N9
  exact hret _ _ _ F9 N9
end
end
end Mine

/-! Law2 -/
namespace Mine
/-- a mark of an object's make: a cell, a list and its length, else -/
noncomputable def kindO (o : Obj) : Nat := match o.data with
  | .cell _ => 0
  | .seq its _ => 1 + its.size
  | _ => 1000000
theorem kind_cell {o : Obj} {v : Option Value} (h : o.data = .cell v) : kindO o = 0 := by unfold kindO; rw [h]
theorem kind_dict {prog : Program} {w : World} {o : Obj} {kvs : List (Str × Value)} (h : o.IsDictOf (strKind prog w) kvs) : 2 ≤ kindO o := by
  obtain ⟨es, ep, hc, hd, hdat, _⟩ := h
  unfold kindO
  simp_all
theorem obj_ne {h₀ h : Heap} {L : Addr} {news : List (Addr × Obj)} {p q : Addr × Obj} (N : News h₀ L h news) (hp : p ∈ news) (hq : q ∈ news) (hk : kindO p.2 ≠ kindO q.2) : p.1 ≠ q.1 := fun e => by
  have h1 := (N p hp).1
  have h2 := (N q hq).1
  rw [e, h2] at h1
  exact hk (by rw [Option.some.inj h1])
theorem news_app {h₀ h : Heap} {L : Addr} {x y : List (Addr × Obj)} (Nx : News h₀ L h x) (Ny : News h₀ L h y) : News h₀ L h (x ++ y) := fun q hq => (List.mem_append.mp hq).elim (Nx q) (Ny q)
theorem all_app {P : Addr × Obj → Prop} {x y : List (Addr × Obj)} (hx : ∀ q ∈ x, P q) (hy : ∀ q ∈ y, P q) : ∀ q ∈ x ++ y, P q := fun q hq => (List.mem_append.mp hq).elim (hx q) (hy q)
theorem all_nil {P : Addr × Obj → Prop} : ∀ q ∈ ([] : List (Addr × Obj)), P q := fun _ h => nomatch h
theorem law_are : bodyOf lawDef = [nthS (bodyOf lawDef) 0, nthS (bodyOf lawDef) 1, nthS (bodyOf lawDef) 2, nthS (bodyOf lawDef) 3, nthS (bodyOf lawDef) 4, nthS (bodyOf lawDef) 5, nthS (bodyOf lawDef) 6, nthS (bodyOf lawDef) 7, nthS (bodyOf lawDef) 8] := by rfl
/-- the law's body, walked -/
theorem seg_law : ∀ (w : World) (loose : List Str) (mean : ExcName → Option Value) (mg mb : Str → Option Value) (dp un : Nat) (gd : Option (List Code)) (a : Addr) (ccd : Value) (outer : List Env) (A₀ : Around) (base h₀ : Heap) (Lf : Addr) (m : Str → Option Value) (s : Shared) (Q : Flow → Shared → Prop) (E : Value → Shared → Prop)
    (l : Addr) (vs : List Value) (ns : List Int) (oA oB oC oD oE : Obj) (bA bB bC bD bE : Option Value) (sc : Scope) (hsc : sc = lawSc) (body : List Stmt) (hbody : body = bodyOf lawDef),
    Site w (hd.heap_39 w.params) loose mean mg mb dp un sc outer A₀ base h₀ Lf m 60 s → PassesOwn (model PySem.Challenge.rw_zo0006_01.row.prog w) (lawTop dp un gd sc Lf a ccd outer) (lawEnv sc Lf a ccd) E →
    News h₀ Lf s.heap [(Lf + 1 + 1 + 1 + 1 + 1, oA), (Lf + 1 + 1 + 1 + 1, oB), (Lf + 1 + 1 + 1, oC), (Lf + 1 + 1, oD), (Lf + 1, oE)] → oA.data = .cell bA → oB.data = .cell bB → oC.data = .cell bC → oD.data = .cell bD → oE.data = .cell bE → m "script" = some (.ref l) → h₀.IsList l vs.toArray → IntsAre vs ns → ns.length ≤ 63 → (∀ x ∈ s.gens, x.bare = true) →
    (∀ (h' : Heap) (tk' : Nat) (gs' : Array GenState), (∀ b o, h₀.get? b = some o → h'.get? b = some o) → (∀ x ∈ gs', x.bare = true) → Q (.ret (.bool true)) { s with heap := h', gens := gs', toks := tk' }) →
      wpAny (model PySem.Challenge.rw_zo0006_01.row.prog w) (lawTop dp un gd sc Lf a ccd outer) (execs body (lawEnv sc Lf a ccd)) Q E s := by
  intro w loose mean mg mb dp un gd a ccd outer A₀ base h₀ Lf m s Q E l vs ns oA oB oC oD oE bA bB bC bD bE sc hsc body hbody S hE N cA cB cC cD cE hms hl hns hlen hgs hret
  subst hbody
  obtain ⟨hB, F, hK, hT, hk, hdp, hun⟩ := S
  rw [law_are]
  have hAE : @Ne Nat (Lf + 1 + 1 + 1 + 1 + 1) (Lf + 1) := by omega
  have hBE : @Ne Nat (Lf + 1 + 1 + 1 + 1) (Lf + 1) := by omega
  have hCE : @Ne Nat (Lf + 1 + 1 + 1) (Lf + 1) := by omega
  have hDE : @Ne Nat (Lf + 1 + 1) (Lf + 1) := by omega
  have hAD : @Ne Nat (Lf + 1 + 1 + 1 + 1 + 1) (Lf + 1 + 1) := by omega
  have hBD : @Ne Nat (Lf + 1 + 1 + 1 + 1) (Lf + 1 + 1) := by omega
  have hCD : @Ne Nat (Lf + 1 + 1 + 1) (Lf + 1 + 1) := by omega
  have N0 : News h₀ Lf s.heap ((Lf + 1, oE) :: (Lf + 1 + 1 + 1 + 1 + 1, oA) :: (Lf + 1 + 1 + 1 + 1, oB) :: (Lf + 1 + 1 + 1, oC) :: (Lf + 1 + 1, oD) :: []) := news_cons N (mem_at 4 rfl) (news_cons N (mem_at 0 rfl) (news_cons N (mem_at 1 rfl) (news_cons N (mem_at 2 rfl) (news_cons N (mem_at 3 rfl) (news_drop 5 N)))))
  refine wpAny_execs_cons ?_
  refine seg_h0 w loose mean mg mb dp un gd a ccd outer A₀ base h₀ Lf _ _ _ E l vs ns oE bE [(Lf + 1 + 1 + 1 + 1 + 1, oA), (Lf + 1 + 1 + 1 + 1, oB), (Lf + 1 + 1 + 1, oC), (Lf + 1 + 1, oD)] sc hsc _ rfl ⟨hB, F, hK, hT, hk, hdp, hun⟩ N0 (off_cons hAE (off_cons hBE (off_cons hCE (off_cons hDE (fun _ h => nomatch h))))) cE hms hl hns hlen ?_
  clear F N N0
  intro h1 tk1 lw nw ra kk W wt whole tw oEx F1 N1 cEx hsym hrng
  show wpAny _ _ _ _ _ _
  have N1' : News h₀ Lf h1 ((Lf + 1 + 1, oD) :: (Lf + 1, oEx) :: (lw, lstN [.ref (ra 0), .ref (ra 1), .ref (ra 2), .ref (ra 3)] nw) :: (ra 0, lstN (wRow W wt 0) (kk 0)) :: (ra 1, lstN (wRow W wt 1) (kk 1)) :: (ra 2, lstN (wRow W wt 2) (kk 2)) :: (ra 3, lstN (wRow W wt 3) (kk 3)) :: (Lf + 1 + 1 + 1 + 1 + 1, oA) :: (Lf + 1 + 1 + 1 + 1, oB) :: (Lf + 1 + 1 + 1, oC) :: []) := news_cons N1 (mem_at 9 rfl) (news_cons N1 (mem_at 0 rfl) (news_cons N1 (mem_at 1 rfl) (news_cons N1 (mem_at 2 rfl) (news_cons N1 (mem_at 3 rfl) (news_cons N1 (mem_at 4 rfl) (news_cons N1 (mem_at 5 rfl) (news_cons N1 (mem_at 6 rfl) (news_cons N1 (mem_at 7 rfl) (news_cons N1 (mem_at 8 rfl) (news_drop 10 N1))))))))))
  refine wpAny_execs_cons ?_
  refine seg_h1 w loose mean mg mb dp un gd a ccd outer A₀ base h₀ Lf _ _ _ E whole tw oD bD [(Lf + 1, oEx), (lw, lstN [.ref (ra 0), .ref (ra 1), .ref (ra 2), .ref (ra 3)] nw), (ra 0, lstN (wRow W wt 0) (kk 0)), (ra 1, lstN (wRow W wt 1) (kk 1)), (ra 2, lstN (wRow W wt 2) (kk 2)), (ra 3, lstN (wRow W wt 3) (kk 3)), (Lf + 1 + 1 + 1 + 1 + 1, oA), (Lf + 1 + 1 + 1 + 1, oB), (Lf + 1 + 1 + 1, oC)] sc hsc _ rfl ⟨hB, F1, hK, hT, hk, hdp, hun⟩ N1' (off_cons (Ne.symm hDE) (off_cons (obj_ne N1 (p := (lw, lstN [.ref (ra 0), .ref (ra 1), .ref (ra 2), .ref (ra 3)] nw)) (q := (Lf + 1 + 1, oD)) (mem_at 1 rfl) (mem_at 9 rfl) (by rw [kind_cell cD]; exact Nat.succ_ne_zero _)) (off_cons (obj_ne N1 (p := (ra 0, lstN (wRow W wt 0) (kk 0))) (q := (Lf + 1 + 1, oD)) (mem_at 2 rfl) (mem_at 9 rfl) (by rw [kind_cell cD]; exact Nat.succ_ne_zero _)) (off_cons (obj_ne N1 (p := (ra 1, lstN (wRow W wt 1) (kk 1))) (q := (Lf + 1 + 1, oD)) (mem_at 3 rfl) (mem_at 9 rfl) (by rw [kind_cell cD]; exact Nat.succ_ne_zero _)) (off_cons (obj_ne N1 (p := (ra 2, lstN (wRow W wt 2) (kk 2))) (q := (Lf + 1 + 1, oD)) (mem_at 4 rfl) (mem_at 9 rfl) (by rw [kind_cell cD]; exact Nat.succ_ne_zero _)) (off_cons (obj_ne N1 (p := (ra 3, lstN (wRow W wt 3) (kk 3))) (q := (Lf + 1 + 1, oD)) (mem_at 5 rfl) (mem_at 9 rfl) (by rw [kind_cell cD]; exact Nat.succ_ne_zero _)) (off_cons (hAD) (off_cons (hBD) (off_cons (hCD) (fun _ h => nomatch h)))))))))) cD rfl ?_
  clear F1 N1 N1'
  intro h2 tk2 f tf oDx F2 N2 cDx hf
  show wpAny _ _ _ _ _ _
  refine wpAny_execs_cons ?_
  refine seg_h2 w loose mean mg mb dp un gd a ccd outer A₀ base h₀ Lf _ _ _ E whole tw _ sc hsc _ rfl ⟨hB, F2, hK, hT, hk, hdp, hun⟩ N2 rfl ?_
  clear F2 N2
  intro h3 tk3 lp p2 pt F3 N3 hp2
  show wpAny _ _ _ _ _ _
  have N3' : News h₀ Lf h3 ((Lf + 1 + 1, oDx) :: (lp, lstN (piecesL p2 pt) 0) :: (Lf + 1, oEx) :: (lw, lstN [.ref (ra 0), .ref (ra 1), .ref (ra 2), .ref (ra 3)] nw) :: (ra 0, lstN (wRow W wt 0) (kk 0)) :: (ra 1, lstN (wRow W wt 1) (kk 1)) :: (ra 2, lstN (wRow W wt 2) (kk 2)) :: (ra 3, lstN (wRow W wt 3) (kk 3)) :: (Lf + 1 + 1 + 1 + 1 + 1, oA) :: (Lf + 1 + 1 + 1 + 1, oB) :: (Lf + 1 + 1 + 1, oC) :: []) := news_cons N3 (mem_at 1 rfl) (news_cons N3 (mem_at 0 rfl) (news_cons N3 (mem_at 2 rfl) (news_cons N3 (mem_at 3 rfl) (news_cons N3 (mem_at 4 rfl) (news_cons N3 (mem_at 5 rfl) (news_cons N3 (mem_at 6 rfl) (news_cons N3 (mem_at 7 rfl) (news_cons N3 (mem_at 8 rfl) (news_cons N3 (mem_at 9 rfl) (news_cons N3 (mem_at 10 rfl) (news_drop 11 N3)))))))))))
  refine wpAny_execs_cons ?_
  refine seg_h3 w loose mean mg mb dp un gd a ccd outer A₀ base h₀ Lf _ _ _ E f tf oDx [(lp, lstN (piecesL p2 pt) 0), (Lf + 1, oEx), (lw, lstN [.ref (ra 0), .ref (ra 1), .ref (ra 2), .ref (ra 3)] nw), (ra 0, lstN (wRow W wt 0) (kk 0)), (ra 1, lstN (wRow W wt 1) (kk 1)), (ra 2, lstN (wRow W wt 2) (kk 2)), (ra 3, lstN (wRow W wt 3) (kk 3)), (Lf + 1 + 1 + 1 + 1 + 1, oA), (Lf + 1 + 1 + 1 + 1, oB), (Lf + 1 + 1 + 1, oC)] sc hsc _ rfl ⟨hB, F3, hK, hT, hk, hdp, hun⟩ N3' cDx hf ?_
  clear F3 N3 N3'
  intro h4 tk4 ln nt F4 N4
  show wpAny _ _ _ _ _ _
  have N4' : News h₀ Lf h4 ((ln, lstN (namesL (fun r => nmOf (f + r)) nt) 4) :: (Lf + 1, oEx) :: (lw, lstN [.ref (ra 0), .ref (ra 1), .ref (ra 2), .ref (ra 3)] nw) :: (ra 0, lstN (wRow W wt 0) (kk 0)) :: (ra 1, lstN (wRow W wt 1) (kk 1)) :: (ra 2, lstN (wRow W wt 2) (kk 2)) :: (ra 3, lstN (wRow W wt 3) (kk 3)) :: (Lf + 1 + 1, oDx) :: (lp, lstN (piecesL p2 pt) 0) :: (Lf + 1 + 1 + 1 + 1 + 1, oA) :: (Lf + 1 + 1 + 1 + 1, oB) :: (Lf + 1 + 1 + 1, oC) :: []) := news_cons N4 (mem_at 0 rfl) (news_cons N4 (mem_at 3 rfl) (news_cons N4 (mem_at 4 rfl) (news_cons N4 (mem_at 5 rfl) (news_cons N4 (mem_at 6 rfl) (news_cons N4 (mem_at 7 rfl) (news_cons N4 (mem_at 8 rfl) (news_cons N4 (mem_at 1 rfl) (news_cons N4 (mem_at 2 rfl) (news_cons N4 (mem_at 9 rfl) (news_cons N4 (mem_at 10 rfl) (news_cons N4 (mem_at 11 rfl) (news_drop 12 N4))))))))))))
  refine wpAny_execs_cons ?_
  refine seg_h4 w loose mean mg mb dp un gd a ccd outer A₀ base h₀ Lf _ _ _ E ln lw f nw nt ra kk W wt oEx [(Lf + 1 + 1, oDx), (lp, lstN (piecesL p2 pt) 0), (Lf + 1 + 1 + 1 + 1 + 1, oA), (Lf + 1 + 1 + 1 + 1, oB), (Lf + 1 + 1 + 1, oC)] sc hsc _ rfl ⟨hB, F4, hK, hT, hk, hdp, hun⟩ N4' cEx rfl hf ?_
  clear F4 N4 N4'
  intro h5 tk5 dc odc kc EE F5 N5 lodc ddc hrows hnone hdict
  show wpAny _ _ _ _ _ _
  refine wpAny_execs_cons ?_
  refine seg_h5 w loose mean mg mb dp un gd a ccd outer A₀ base h₀ Lf _ _ _ E _ sc hsc _ rfl ⟨hB, F5, hK, hT, hk, hdp, hun⟩ N5 ?_
  clear F5 N5
  intro h6 tk6 lf F6 N6
  show wpAny _ _ _ _ _ _
  have hk6 : ∀ p, p ∈ (lf, lstN [] 0) :: (dc, odc) :: (EE ++ [(ln, lstN (namesL (fun r => nmOf (f + r)) nt) 4), (Lf + 1, oEx), (lw, lstN [.ref (ra 0), .ref (ra 1), .ref (ra 2), .ref (ra 3)] nw), (ra 0, lstN (wRow W wt 0) (kk 0)), (ra 1, lstN (wRow W wt 1) (kk 1)), (ra 2, lstN (wRow W wt 2) (kk 2)), (ra 3, lstN (wRow W wt 3) (kk 3)), (Lf + 1 + 1, oDx), (lp, lstN (piecesL p2 pt) 0), (Lf + 1 + 1 + 1 + 1 + 1, oA), (Lf + 1 + 1 + 1 + 1, oB), (Lf + 1 + 1 + 1, oC)]) → 2 ≤ kindO p.2 → p.1 ≠ lf ∧ p.1 ≠ Lf + 1 + 1 + 1 + 1 ∧ p.1 ≠ Lf + 1 + 1 + 1 + 1 + 1 ∧ p.1 ≠ Lf + 1 + 1 + 1 := fun p hp h2 =>
    ⟨obj_ne N6 (q := (lf, lstN [] 0)) hp (.head _) (fun e => by rw [e] at h2; exact absurd (show 2 ≤ 1 from h2) (by decide)), obj_ne N6 (q := (Lf + 1 + 1 + 1 + 1, oB)) hp (.tail _ (.tail _ (List.mem_append_right _ (mem_at 10 rfl)))) (fun e => by rw [e, kind_cell cB] at h2; exact absurd h2 (by decide)),
      obj_ne N6 (q := (Lf + 1 + 1 + 1 + 1 + 1, oA)) hp (.tail _ (.tail _ (List.mem_append_right _ (mem_at 9 rfl)))) (fun e => by rw [e, kind_cell cA] at h2; exact absurd h2 (by decide)), obj_ne N6 (q := (Lf + 1 + 1 + 1, oC)) hp (.tail _ (.tail _ (List.mem_append_right _ (mem_at 11 rfl)))) (fun e => by rw [e, kind_cell cC] at h2; exact absurd h2 (by decide))⟩
  have hlf : ∀ (c : Addr) (o : Obj) (v : Option Value), (c, o) ∈ (lf, lstN [] 0) :: (dc, odc) :: (EE ++ [(ln, lstN (namesL (fun r => nmOf (f + r)) nt) 4), (Lf + 1, oEx), (lw, lstN [.ref (ra 0), .ref (ra 1), .ref (ra 2), .ref (ra 3)] nw), (ra 0, lstN (wRow W wt 0) (kk 0)), (ra 1, lstN (wRow W wt 1) (kk 1)), (ra 2, lstN (wRow W wt 2) (kk 2)), (ra 3, lstN (wRow W wt 3) (kk 3)), (Lf + 1 + 1, oDx), (lp, lstN (piecesL p2 pt) 0), (Lf + 1 + 1 + 1 + 1 + 1, oA), (Lf + 1 + 1 + 1 + 1, oB), (Lf + 1 + 1 + 1, oC)]) → o.data = .cell v → lf ≠ c := fun c o v hp e => obj_ne N6 (p := (lf, lstN [] 0)) (q := (c, o)) (.head _) hp (by rw [kind_cell e]; exact Nat.succ_ne_zero _)
  have N7 : News h₀ Lf h6 ((lf, lstN [] 0) :: (Lf + 1 + 1 + 1 + 1 + 1, oA) :: (Lf + 1 + 1 + 1 + 1, oB) :: (Lf + 1 + 1 + 1, oC) :: (dc, odc) :: (ln, lstN (namesL (fun r => nmOf (f + r)) nt) 4) :: (lp, lstN (piecesL p2 pt) 0) :: (Lf + 1 + 1, oDx) :: (lw, lstN [.ref (ra 0), .ref (ra 1), .ref (ra 2), .ref (ra 3)] nw) :: (Lf + 1, oEx) :: (EE ++ [(ra 0, lstN (wRow W wt 0) (kk 0)), (ra 1, lstN (wRow W wt 1) (kk 1)), (ra 2, lstN (wRow W wt 2) (kk 2)), (ra 3, lstN (wRow W wt 3) (kk 3))])) := news_cons N6 (.head _) (news_cons N6 (.tail _ (.tail _ (List.mem_append_right _ (mem_at 9 rfl)))) (news_cons N6 (.tail _ (.tail _ (List.mem_append_right _ (mem_at 10 rfl)))) (news_cons N6 (.tail _ (.tail _ (List.mem_append_right _ (mem_at 11 rfl)))) (news_cons N6 (.tail _ (.head _)) (news_cons N6 (.tail _ (.tail _ (List.mem_append_right _ (mem_at 0 rfl)))) (news_cons N6 (.tail _ (.tail _ (List.mem_append_right _ (mem_at 8 rfl)))) (news_cons N6 (.tail _ (.tail _ (List.mem_append_right _ (mem_at 7 rfl)))) (news_cons N6 (.tail _ (.tail _ (List.mem_append_right _ (mem_at 2 rfl)))) (news_cons N6 (.tail _ (.tail _ (List.mem_append_right _ (mem_at 1 rfl)))) (news_app (fun q h => N6 q (.tail _ (.tail _ (List.mem_append_left _ h)))) (news_cons N6 (.tail _ (.tail _ (List.mem_append_right _ (mem_at 3 rfl)))) (news_cons N6 (.tail _ (.tail _ (List.mem_append_right _ (mem_at 4 rfl)))) (news_cons N6 (.tail _ (.tail _ (List.mem_append_right _ (mem_at 5 rfl)))) (news_cons N6 (.tail _ (.tail _ (List.mem_append_right _ (mem_at 6 rfl)))) (fun _ h => nomatch h)))))))))))))))
  refine wpAny_execs_cons ?_
  refine seg_loop w loose mean mg mb dp un gd a ccd outer A₀ base h₀ Lf _ _ _ E lf dc ln lp lw nw f oA oB oC oDx oEx odc kc bA bB bC tf nt pt ra W wt p2 (EE ++ [(ra 0, lstN (wRow W wt 0) (kk 0)), (ra 1, lstN (wRow W wt 1) (kk 1)), (ra 2, lstN (wRow W wt 2) (kk 2)), (ra 3, lstN (wRow W wt 3) (kk 3))]) sc hsc _ rfl ⟨hB, F6, hK, hT, hk, hdp, hun⟩ hE N7 (all_cons (hk6 _ (.tail _ (.head _)) (kind_dict ddc)) (all_cons (hk6 _ (.tail _ (.tail _ (List.mem_append_right _ (mem_at 0 rfl)))) (Nat.le_of_ble_eq_true rfl)) (all_cons (hk6 _ (.tail _ (.tail _ (List.mem_append_right _ (mem_at 8 rfl)))) (Nat.le_of_ble_eq_true rfl)) (all_cons ⟨Ne.symm (hlf _ _ _ (.tail _ (.tail _ (List.mem_append_right _ (mem_at 7 rfl)))) cDx), Ne.symm hBD, Ne.symm hAD, Ne.symm hCD⟩ (all_cons (hk6 _ (.tail _ (.tail _ (List.mem_append_right _ (mem_at 2 rfl)))) (Nat.le_of_ble_eq_true rfl)) (all_cons ⟨Ne.symm (hlf _ _ _ (.tail _ (.tail _ (List.mem_append_right _ (mem_at 1 rfl)))) cEx), Ne.symm hBE, Ne.symm hAE, Ne.symm hCE⟩ (all_app (fun p hp => hk6 p (.tail _ (.tail _ (List.mem_append_left _ hp))) (by obtain ⟨kd, hd⟩ := hdict p hp; exact kind_dict hd)) (all_cons (hk6 _ (.tail _ (.tail _ (List.mem_append_right _ (mem_at 3 rfl)))) (Nat.le_of_ble_eq_true rfl)) (all_cons (hk6 _ (.tail _ (.tail _ (List.mem_append_right _ (mem_at 4 rfl)))) (Nat.le_of_ble_eq_true rfl)) (all_cons (hk6 _ (.tail _ (.tail _ (List.mem_append_right _ (mem_at 5 rfl)))) (Nat.le_of_ble_eq_true rfl)) (all_cons (hk6 _ (.tail _ (.tail _ (List.mem_append_right _ (mem_at 6 rfl)))) (Nat.le_of_ble_eq_true rfl)) (all_nil))))))))))))
    (hlf _ _ _ (.tail _ (.tail _ (List.mem_append_right _ (mem_at 10 rfl)))) cB) (hlf _ _ _ (.tail _ (.tail _ (List.mem_append_right _ (mem_at 9 rfl)))) cA) (hlf _ _ _ (.tail _ (.tail _ (List.mem_append_right _ (mem_at 11 rfl)))) cC) cA cB cC cDx cEx rfl rfl rfl rfl (fun r hr => by
      have : r = 0 ∨ r = 1 ∨ r = 2 ∨ r = 3 := lt4 (by first | assumption | omega)
      rcases this with rfl | rfl | rfl | rfl
      · exact ⟨_, List.mem_append_right _ (mem_at 0 rfl)⟩
      · exact ⟨_, List.mem_append_right _ (mem_at 1 rfl)⟩
      · exact ⟨_, List.mem_append_right _ (mem_at 2 rfl)⟩
      · exact ⟨_, List.mem_append_right _ (mem_at 3 rfl)⟩) lodc ddc (fun k v e => by
      obtain ⟨D, oD', kd, e1, e2, e3, e4, e5⟩ := hrows k v e
      exact ⟨D, oD', kd, e1, e2, List.mem_append_left _ e3, e4, e5⟩) hnone hf hrng hsym hp2 hgs ?_
  clear F6 N6 N7 hk6 hlf
  intro h8 tk8 gs8 lvs nl oT oM oH m8 F8 N8 hml hmp hlv hgs8
  show wpAny _ _ _ _ _ _
  have N8' : News h₀ Lf h8 ((Lf + 1, oEx) :: (lw, lstN [.ref (ra 0), .ref (ra 1), .ref (ra 2), .ref (ra 3)] nw) :: (lf, lstN lvs nl) :: (Lf + 1 + 1 + 1 + 1 + 1, oT) :: (Lf + 1 + 1 + 1 + 1, oM) :: (Lf + 1 + 1 + 1, oH) :: (dc, odc) :: (ln, lstN (namesL (fun r => nmOf (f + r)) nt) 4) :: (lp, lstN (piecesL p2 pt) 0) :: (Lf + 1 + 1, oDx) :: (EE ++ [(ra 0, lstN (wRow W wt 0) (kk 0)), (ra 1, lstN (wRow W wt 1) (kk 1)), (ra 2, lstN (wRow W wt 2) (kk 2)), (ra 3, lstN (wRow W wt 3) (kk 3))])) := news_cons N8 (mem_at 9 rfl) (news_cons N8 (mem_at 8 rfl) (news_cons N8 (mem_at 0 rfl) (news_cons N8 (mem_at 1 rfl) (news_cons N8 (mem_at 2 rfl) (news_cons N8 (mem_at 3 rfl) (news_cons N8 (mem_at 4 rfl) (news_cons N8 (mem_at 5 rfl) (news_cons N8 (mem_at 6 rfl) (news_cons N8 (mem_at 7 rfl) (news_drop 10 N8))))))))))
  refine wpAny_execs_cons ?_
  refine seg_own w loose mean mg mb dp un gd a ccd outer A₀ base h₀ Lf _ _ _ E lw nw oEx ra W wt ((lf, lstN lvs nl) :: (Lf + 1 + 1 + 1 + 1 + 1, oT) :: (Lf + 1 + 1 + 1 + 1, oM) :: (Lf + 1 + 1 + 1, oH) :: (dc, odc) :: (ln, lstN (namesL (fun r => nmOf (f + r)) nt) 4) :: (lp, lstN (piecesL p2 pt) 0) :: (Lf + 1 + 1, oDx) :: (EE ++ [(ra 0, lstN (wRow W wt 0) (kk 0)), (ra 1, lstN (wRow W wt 1) (kk 1)), (ra 2, lstN (wRow W wt 2) (kk 2)), (ra 3, lstN (wRow W wt 3) (kk 3))])) sc hsc _ rfl ⟨hB, F8, hK, hT, hk, hdp, hun⟩ N8' cEx (fun r hr => by
      have : r = 0 ∨ r = 1 ∨ r = 2 ∨ r = 3 := lt4 (by first | assumption | omega)
      rcases this with rfl | rfl | rfl | rfl
      · exact ⟨_, .tail _ (.tail _ (.tail _ (.tail _ (.tail _ (.tail _ (.tail _ (.tail _ (List.mem_append_right _ (mem_at 0 rfl)))))))))⟩
      · exact ⟨_, .tail _ (.tail _ (.tail _ (.tail _ (.tail _ (.tail _ (.tail _ (.tail _ (List.mem_append_right _ (mem_at 1 rfl)))))))))⟩
      · exact ⟨_, .tail _ (.tail _ (.tail _ (.tail _ (.tail _ (.tail _ (.tail _ (.tail _ (List.mem_append_right _ (mem_at 2 rfl)))))))))⟩
      · exact ⟨_, .tail _ (.tail _ (.tail _ (.tail _ (.tail _ (.tail _ (.tail _ (.tail _ (List.mem_append_right _ (mem_at 3 rfl)))))))))⟩) ?_
  clear F8 N8 N8'
  intro h9 tk9 t9 F9 N9
  show wpAny _ _ _ _ _ _
  have N9' : News h₀ Lf h9 ((lf, lstN lvs nl) :: (lp, lstN (piecesL p2 pt) 0) :: (Lf + 1 + 1 + 1 + 1 + 1, oT) :: (Lf + 1, oEx) :: (lw, lstN [.ref (ra 0), .ref (ra 1), .ref (ra 2), .ref (ra 3)] nw) :: (Lf + 1 + 1 + 1 + 1, oM) :: (Lf + 1 + 1 + 1, oH) :: (dc, odc) :: (ln, lstN (namesL (fun r => nmOf (f + r)) nt) 4) :: (Lf + 1 + 1, oDx) :: (EE ++ [(ra 0, lstN (wRow W wt 0) (kk 0)), (ra 1, lstN (wRow W wt 1) (kk 1)), (ra 2, lstN (wRow W wt 2) (kk 2)), (ra 3, lstN (wRow W wt 3) (kk 3))])) := news_cons N9 (mem_at 2 rfl) (news_cons N9 (mem_at 8 rfl) (news_cons N9 (mem_at 3 rfl) (news_cons N9 (mem_at 0 rfl) (news_cons N9 (mem_at 1 rfl) (news_cons N9 (mem_at 4 rfl) (news_cons N9 (mem_at 5 rfl) (news_cons N9 (mem_at 6 rfl) (news_cons N9 (mem_at 7 rfl) (news_cons N9 (mem_at 9 rfl) (news_drop 10 N9))))))))))
  have hlt := num4_lt (oddW W 0 0) (oddW W 1 1) (oddW W 2 2) (oddW W 3 3)
  have hos := ownL_sum W
  unfold ownB at hos
  refine wpAny_execs_cons ?_
  refine seg_ret w loose mean mg mb dp un gd a ccd outer A₀ base h₀ Lf _ _ _ E lf lp nl 0 lvs ((List.range 16).map fun c => restS (PS p2) (lostW W c)) p2 pt (ownL W).sum t9 ((Lf + 1 + 1 + 1 + 1 + 1, oT) :: (Lf + 1, oEx) :: (lw, lstN [.ref (ra 0), .ref (ra 1), .ref (ra 2), .ref (ra 3)] nw) :: (Lf + 1 + 1 + 1 + 1, oM) :: (Lf + 1 + 1 + 1, oH) :: (dc, odc) :: (ln, lstN (namesL (fun r => nmOf (f + r)) nt) 4) :: (Lf + 1 + 1, oDx) :: (EE ++ [(ra 0, lstN (wRow W wt 0) (kk 0)), (ra 1, lstN (wRow W wt 1) (kk 1)), (ra 2, lstN (wRow W wt 2) (kk 2)), (ra 3, lstN (wRow W wt 3) (kk 3))])) sc hsc _ rfl ⟨hB, F9, hK, hT, hk, hdp, hun⟩ N9' (if_else hml (by decide)) (if_else hmp (by decide)) rfl (by rw [hos]; omega) (by rw [hos]; omega) (p2_len hp2) hlv (by simp) (by rw [ownL_sum]; exact own_ok hp2 hsym) (shares_ok hp2 hsym) ?_
  intro h10 tk10 up10
  exact hret h10 _ gs8 (fun b o e => up10 b o (F9.keep b o e)) hgs8

local macro_rules | `(tactic| walk_at $s:str) => kP s [("execs cons", kH)]
theorem law1 : PySem.Challenge.rw_zo0006_01.Holds := hd (by
  lge_go0
  (all_goals try k_fold)
  rename LGe.Mark => lgeM
  clear lgeM
  k_steps
  unfold Hold
  rename_i w s₀ s₁ mg mb G Y fa o pm doc ho hg KX X V GL T B TE TW w14 w13 M w12 w11 B0 hcd ns hs hlay0 hL1 hr1 hl2 w9 w8 l vs w5 hL ra w1 r0 hI hr hlen hc2 K0 hD h₁ tk₁ F oA oB oC oD oE cA cB cC cD cE N X0
  have hns : IntsAre vs ns := hI
  have hlen' : ns.length ≤ 63 := by
    have : ¬ (63 : Int) < (ns.length : Int) := hlen
    omega
  clear X0 hD hr hlen hcd
  refine seg_law w _ _ _ _ _ _ _ _ _ _ _ _ _ _ _ _ _ _ l vs ns oA oB oC oD oE _ _ _ _ _ _ rfl _ rfl ⟨K0, F, KX, T, rfl, by decide, by decide⟩ PySem.PassesOwn.leaving N cA cB cC cD cE rfl hL hns hlen' (fun x hx => by
    have hx : x ∈ s₁.gens := hx
    rw [hg] at hx
    simp at hx) ?_
  intro h' tk' gs' up hgs
  dsimp only
  k_steps
  exact ⟨.inl ⟨_, _, [], rfl, fun _ => rfl, ReadsW.bool true, (by first | wrow_post | rfl), fun _ => ⟨List.nodup_nil, fun _ hm => nomatch hm⟩⟩, .of_keep up, rfl, hgs⟩)
end Mine

theorem PySem.Challenge.cw_zo0006_01_holds : PySem.Challenge.rw_zo0006_01.Holds := by
  exact Mine.law1
