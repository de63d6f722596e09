import PyProof.Rows.All
import Wide.All
import OpenK.AllK
import Wide.FinOn
import PySem.Challenge.RW_mr0117_01
open PySem PySem.W PyProof.Rows
set_option Elab.async false
set_option maxRecDepth 100000
set_option linter.unusedVariables false
set_option linter.unusedSimpArgs false
namespace Mine
set_option maxHeartbeats 8000000 in
open_top hd for PySem.Challenge.rw_mr0117_01
end Mine
namespace Mine
open PySem.Builtin PySem.Builtin.Str PySem.Calls
/-- the written part of the heap that the head speaks of, read off the head's own type -/
noncomputable def fragOf {K : Params → Frag} {as : List Addr} {e : ∀ P, as = (K P).map (·.1)} {q : Program} {l : List Str} {X : _} {r : _} {d : _} {f1 : _} {f2 : _} {C : Prop} (h : WalkO q l X (kHook K as e).says r d f1 f2 → C) : Params → Frag := K
noncomputable def heap0 : Params → Frag := fragOf hd
noncomputable abbrev KK (w : World) : Frag := heap0 w.params

/-- what every heap of the call knows of the text's top -/
def Cx (w : World) (h : Heap) : Prop := (KK w).In h ∧ ∃ p loose mg mb, TopRead p loose mg mb h
theorem Cx.keeps {w : World} {h h' : Heap} (C : Cx w h) (k : ∀ b o, h.get? b = some o → h'.get? b = some o) : Cx w h' :=
  let ⟨X, p, l, mg, mb, T⟩ := C; ⟨X.keeps k, p, l, mg, mb, T.keeps k⟩

section
variable {prog : Program} {w : World} {A : Around} {E : Value → Shared → Prop} {s : Shared}

theorem call_fn {Q : Value → Shared → Prop} {name qual : Str} {params : Arguments} {body : List Stmt} {scope : Scope} {dV kV doc pm cdv ct oc : Value} {an od : Option Addr} {osl : Array (Option Value)} {f : Addr} {args : List Value} {kw : List (Str × Value)} {binds : List (Str × Value)}
    (C : Cx w s.heap) (hroom : A.depth < recursionLimit)
    (ho : (KK w).lookup f = some ⟨oc, od, .func (fnOf name qual params body scope dV kV doc pm an cdv ct), osl⟩) (hcd : codeIn (KK w) cdv qual = true)
    (hbind : BindsTo s (fnOf name qual params body scope dV kV doc pm an cdv ct) ⟨args, kw⟩ binds) (hloc : ∀ y ∈ binds, scope.names.lookup y.1 = some .local)
    (hcell : ∀ x ∈ scope.names, x.2 ≠ .cell) (hco : scope.isCoroutine = false) (hgen : scope.isGenerator = false) (hk : scope.kind = .function)
    (h : ∀ L h₁, Fr s.heap L h₁ (fun y => binds.reverse.lookup y) → Cx w h₁ →
      wpAny (model prog w) (A.deeper (envOf qual scope L f cdv)) (execs body (envOf qual scope L f cdv))
        (fun fl s' => Q (match fl with | .ret v => v | _ => .none) s') (fun _ _ => False)
        { s with heap := h₁, toks := s.toks + binds.length }) :
    wpAny (model prog w) A (call (.ref f) args kw) Q E s := by
  have C' := C
  obtain ⟨X, p, l, mg, mb, T⟩ := C'
  refine wpAny_call (codeAny_call_def (fd := fnOf name qual params body scope dV kV doc pm an cdv ct) (body := body) (binds := binds) hroom (X _ _ ho) rfl T.nolimit (codeRec_of X hcd) rfl hbind hcell hloc (fun h₁ hns hk₁ => ?_) hco hgen hk)
  exact wpAny_mono (h _ h₁ ⟨hns, hk₁, Nat.le_refl _⟩ (C.keeps hk₁)) (fun _ _ q => q) (fun _ _ q => q.elim)

theorem nameK {env : Env} {x : Str} {pos : Pos} {v : Value} {Q : Value → Shared → Prop} (C : Cx w s.heap) (e : nsIn (KK w) mainGlobals x = some (some v)) (h : Q v s)
    (hg : env.globals = mainGlobals := by rfl) (hk : env.scope.kind = .function := by rfl) (hx : env.kindOf x = some .globalImplicit := by rfl) (hd : (x == ("__debug__" : Str)) = false := by decide) :
    wpAny (model prog w) A (eval (.Name x pos) env) Q E s := by
  obtain ⟨X, p, l, mg, mb, T⟩ := C
  exact Name_function_global hk hx (loadGlobal_global (env := env) (by rw [hg]; exact T.g) (mg_of X T.g e) h) hd

theorem nameB {env : Env} {x : Str} {pos : Pos} {v : Value} {Q : Value → Shared → Prop} (C : Cx w s.heap) (e : nsIn (KK w) mainGlobals x = some none) (hv : bootBuiltins x = some v) (hn : x ≠ "__name__") (h : Q v s)
    (hg : env.globals = mainGlobals := by rfl) (hb : env.builtins = builtinsNs := by rfl) (hk : env.scope.kind = .function := by rfl) (hx : env.kindOf x = some .globalImplicit := by rfl) (hd : (x == ("__debug__" : Str)) = false := by decide) :
    wpAny (model prog w) A (eval (.Name x pos) env) Q E s := by
  obtain ⟨X, p, l, mg, mb, T⟩ := C
  exact Name_function_global hk hx (loadGlobal_builtin (env := env) (by rw [hg]; exact T.g) (mg_none_of X T.g e) (by rw [hb]; exact T.b) ((T.builtins x hn).trans hv) h) hd
end

theorem Fr.same {h₀ h h' : Heap} {L l : Addr} {m : Str → Option Value} (F : Fr h₀ L h m) (hs : Heap.SameBut l h h') (hl : l ≠ L) (hn : h₀.get? l = none) : Fr h₀ L h' m :=
  ⟨F.ns.sameBut hs (Ne.symm hl), fun b o e => (hs.2 b (fun q => by subst q; rw [hn] at e; cases e)).trans (F.keep b o e), F.above⟩
theorem Fr.ext {h₀ h h' : Heap} {L l : Addr} {m : Str → Option Value} (F : Fr h₀ L h m) (hs : Heap.ExtBut l h h') (hl : l ≠ L) (hn : h₀.get? l = none) : Fr h₀ L h' m :=
  ⟨F.ns.extBut hs (Ne.symm hl), fun b o e => hs b o (fun q => by subst q; rw [hn] at e; cases e) (F.keep b o e), F.above⟩

def find4 (x y : Str) (lo hi : Int) : Int := match occurrences x y (fromIndex x.length lo) (min (fromIndex x.length hi) x.length) 1 with | k :: _ => (k : Int) | [] => -1
theorem gives_str_find4 (x y : Str) (i j : Int) (t u v v' : Tok) : PySem.Gives («str.find» ⟨[.str x t, .str y u, .int i v, .int j v'], []⟩) (.int (find4 x y i j)) := by
  show PySem.Gives (match occurrences x y (fromIndex x.length i) (min (fromIndex x.length j) x.length) 1 with | k :: _ => retInt k | [] => (do rule "str.find.not-found"; retInt (-1))) _
  unfold find4
  cases occurrences x y (fromIndex x.length i) (min (fromIndex x.length j) x.length) 1 with
  | nil => exact .rule (.of_eq rfl)
  | cons k _ => exact .of_eq rfl
theorem call_find4 {prog : Program} {w : World} {A : Around} {E : Value → Shared → Prop} {s : Shared} {x y : Str} {t u v v' : Tok} {i j : Int} {Q : Value → Shared → Prop}
    (hq : Q (.int (find4 x y i j) s.toks) { s with toks := s.toks + 1 }) : wpAny (model prog w) A (call (.builtin "str.find") [.str x t, .str y u, .int i v, .int j v']) Q E s :=
  call_gives F.slot_str_find (typeIs_str _ _ _) F.entry_str_find (F.args_str_find_4 _ _ _ _) (gives_str_find4 x y i j t u v v') hq
end Mine

namespace Mine
open PySem.Builtin PySem.Builtin.Str PySem.Calls

abbrev Grow (h h' : Heap) : Prop := ∀ b o, h.get? b = some o → h'.get? b = some o

/-- a name of the frame (a local, or a cell of its own or of a frame around) holds v -/
def NameIs (env : Env) (h : Heap) (x : Str) (v : Value) : Prop :=
  (env.kindOf x = some .local ∧ ∃ m, h.Ns env.locals m ∧ m x = some v) ∨
  ((env.kindOf x = some .cell ∨ env.kindOf x = some .free) ∧ ∃ c, env.cells.lookup x = some c ∧ h.IsCell c (some v))
theorem NameIs.keeps {env : Env} {h h' : Heap} {x : Str} {v : Value} (N : NameIs env h x v) (k : Grow h h') : NameIs env h' x v := by
  rcases N with ⟨a, m, b, c⟩ | ⟨a, c, b, d⟩
  · exact .inl ⟨a, m, b.keeps k, c⟩
  · exact .inr ⟨a, c, b, d.keeps k⟩
theorem NameIs.ev {M : Model} {A : Around} {E : Value → Shared → Prop} {s : Shared} {env : Env} {x : Str} {v : Value} {pos : Pos} {Q : Value → Shared → Prop} (N : NameIs env s.heap x v) (h : Q v s)
    (hk : env.scope.kind = .function := by rfl) (hd : (x == ("__debug__" : Str)) = false := by decide) (hn : (x == ("__classdict__" : Str)) = false := by decide) : wpAny M A (eval (.Name x pos) env) Q E s := by
  refine wpAny_Name ?_ hd
  rcases N with ⟨a, m, b, c⟩ | ⟨a | a, c, b, d⟩
  · exact wpAny_loadName_local hk a b c h
  · exact wpAny_loadName_cell hk a b d h
  · exact wpAny_loadName_free hk a b d h hn

/-- the place c that the target x of the block cenv is stored at -/
def Tgt (cenv : Env) (x : Str) (c : Addr) (h : Heap) : Prop :=
  (∃ m, h.Ns cenv.locals m) ∧ ((cenv.kindOf x = some .local ∧ c = cenv.locals) ∨ (cenv.kindOf x = some .cell ∧ cenv.cells.lookup x = some c ∧ c ≠ cenv.locals ∧ ∃ v, h.IsCell c v))
theorem Tgt.at {cenv : Env} {x : Str} {c : Addr} {h h' : Heap} (T : Tgt cenv x c h) (k1 : ∀ o, h.get? cenv.locals = some o → h'.get? cenv.locals = some o) (k2 : ∀ o, h.get? c = some o → h'.get? c = some o) : Tgt cenv x c h' := by
  obtain ⟨⟨m, hm⟩, T⟩ := T
  refine ⟨⟨m, hm.at' k1⟩, T.imp id ?_⟩
  rintro ⟨a, b, d, v, o, e, f⟩
  exact ⟨a, b, d, v, o, k2 _ e, f⟩
theorem Tgt.lt {cenv : Env} {x : Str} {c : Addr} {h : Heap} (T : Tgt cenv x c h) : c < h.objs.size := by
  obtain ⟨⟨m, o, _, _, e, _⟩, ⟨_, rfl⟩ | ⟨_, _, _, v, o, e, _⟩⟩ := T <;> exact Heap.lt_size e
theorem Tgt.ltL {cenv : Env} {x : Str} {c : Addr} {h : Heap} (T : Tgt cenv x c h) : cenv.locals < h.objs.size := by
  obtain ⟨⟨m, o, _, _, e, _⟩, _⟩ := T; exact Heap.lt_size e

section
variable {prog : Program} {w : World} {A : Around} {E : Value → Shared → Prop} {s : Shared} {env : Env}

theorem Tgt.assign {cenv : Env} {x : Str} {px : Pos} {c : Addr} {v : Value} {Q : Unit → Shared → Prop} (hk : cenv.scope.kind = .function) (T : Tgt cenv x c s.heap)
    (h : ∀ h' tk, Tgt cenv x c h' → NameIs cenv h' x v → Heap.SameBut c s.heap h' → Q () { s with heap := h', toks := tk }) : wpAny (model prog w) A (assign (.Name x px) cenv v) Q E s := by
  obtain ⟨⟨m, hm⟩, ⟨a, rfl⟩ | ⟨a, b, d, u, e⟩⟩ := T
  · refine wpAny_assign_Name (wpAny_storeName_local a hm (fun h' hn hs => ?_) (by rw [hk]; rfl))
    exact h _ _ ⟨⟨_, hn⟩, .inl ⟨a, rfl⟩⟩ (.inl ⟨a, _, hn, by simp⟩) hs
  · refine wpAny_assign_Name (wpAny_storeName_cell hk a b e fun h' hc hs => ?_)
    exact h h' s.toks ⟨⟨_, hm.sameBut hs (Ne.symm d)⟩, .inr ⟨a, b, d, _, hc⟩⟩ (.inr ⟨.inl a, c, b, hc⟩) hs

/-- what is told of an item holds on in a heap that keeps all from lo on -/
structure Stable (G : Nat → Nat → Heap → Value → Prop) : Prop where
  up : ∀ i lo h h' y, G i lo h y → (∀ b o, lo ≤ b → h.get? b = some o → h'.get? b = some o) → G i lo h' y
  down : ∀ i lo lo' h y, lo' ≤ lo → G i lo h y → G i lo' h y

theorem compLoop_G {elt iter : Expr} {x : Str} {px : Pos} {scope : Scope} {pos : Pos} {I D c : Addr} {fp wr : List Addr} {n lo : Nat} {P : Nat → Value → Prop} {St : Nat → Heap → Prop} {R : Result → Shared → Prop}
    {cenv : Env} (W : Walks prog w A I fp wr n P St) {G : Nat → Nat → Heap → Value → Prop} (hG : Stable G) (hk : cenv.scope.kind = .function)
    (hDC : D ≠ cenv.locals) (hDc : D ≠ c) (hDf : D ∉ fp) (hCf : cenv.locals ∉ fp) (hcf : c ∉ fp) (hDl : D < lo) (hcl : c < lo) (hfl : ∀ b ∈ fp, b < lo)
    (hlast : lo - 1 = c)
    (hst : St 0 s.heap) (hacc : s.heap.PlainList D #[]) (hT : Tgt cenv x c s.heap)
    (helt : ∀ i v s₂ E', i < n → P i v → NameIs cenv s₂.heap x v → (∀ b o, b ≠ c → b ∉ wr → b ≠ D → s.heap.get? b = some o → s₂.heap.get? b = some o) → (∃ h tk, s₂ = { s with heap := h, toks := tk }) →
      wpAny (model prog w) A (eval elt cenv) (fun y s₃ => G i s₂.heap.objs.size s₃.heap y ∧ Keeps s₂ s₃) E' s₂)
    (hR : ∀ h' tk (ys : List Value), Tgt cenv x c h' → h'.PlainList D ys.toArray → ys.length = n → (∀ i y, ys[i]? = some y → G i lo h' y) →
      (∀ b o, b ≠ c → b ∉ wr → b ≠ D → s.heap.get? b = some o → h'.get? b = some o) → R (.ok .next) { s with heap := h', toks := tk })
    (hsz : n ≤ sizeLine) :
    codeAny (model prog w) A (.compLoop (.ListComp elt [⟨.Name x px, iter, [], 0⟩] scope pos) 0 (.ref I) (.ref D) cenv) R s := by
  refine codeAny_compLoop_tests
    (fun k s' => ∃ h' tk, ∃ ys : List Value, s' = { s with heap := h', toks := tk } ∧ St ys.length h' ∧ h'.PlainList D ys.toArray ∧ Tgt cenv x c h' ∧ (∀ i y, ys[i]? = some y → G i lo h' y) ∧
      ys.length ≤ n ∧ k = n + 1 - ys.length ∧ (∀ b o, b ≠ c → b ∉ wr → b ≠ D → s.heap.get? b = some o → h'.get? b = some o)) ?_ (n + 1)
    ⟨s.heap, s.toks, [], rfl, hst, hacc, hT, by simp, Nat.zero_le _, rfl, fun _ _ _ _ _ e => e⟩
  rintro k s' ⟨H, tk, ys, rfl, hst', hacc', hT', hGs, hle, rfl, hkp⟩
  have hCw : cenv.locals ∉ wr := fun h => hCf (W.sub _ h)
  have hDw : D ∉ wr := fun h => hDf (W.sub _ h)
  have hcw : c ∉ wr := fun h => hcf (W.sub _ h)
  by_cases hlt : ys.length < n
  · refine W.item ys.length _ _ _ hlt hst' fun v h₁ tk₁ hPv hst₁ hk₁ => ?_
    have hT₁ : Tgt cenv x c h₁ := hT'.at (fun o e => hk₁ _ o hCw e) (fun o e => hk₁ _ o hcw e)
    refine Tgt.assign hk hT₁ fun h₂ tk₂ hT₂ hN₂ hs₂ => ?_
    dsimp only at hs₂
    have up₂ : ∀ b o, b ≠ c → b ∉ wr → H.get? b = some o → h₂.get? b = some o := fun b o hbc hbf e => hs₂.extBut b o hbc (hk₁ b o hbf e)
    have hst₂ : St (ys.length + 1) h₂ := W.frame _ _ _ hst₁ fun b hb o e => hs₂.extBut b o (fun h => hcf (h ▸ hb)) e
    refine wpAny_pure ?_
    simp only [if_true]
    refine wpAny_mono (helt ys.length v _ _ hlt hPv hN₂ (fun b o hbc hbf hbD e => up₂ b o hbc hbf (hkp b o hbc hbf hbD e)) ⟨_, _, rfl⟩) (fun y s₄ h₄ => ?_) fun _ _ e => e
    obtain ⟨hGy, h₄, tk₄, rfl, hk₄⟩ := h₄
    dsimp only at hGy hk₄
    refine wpAny_list_append_plain (hsz := by rw [List.size_toArray]; omega) (items := ys.toArray) (hacc'.at fun o e => hk₄ _ o (up₂ D o hDc hDw e)) fun h₅ hl₅ hs₅ => ?_
    dsimp only at hs₅
    have hlt₂ : lo ≤ h₂.objs.size := by have e1 : c < h₂.objs.size := hT₂.lt; have e2 : c < lo := hcl; exact (by rw [← hlast] at e1; exact Nat.le_of_pred_lt e1)
    refine ⟨n + 1 - (ys ++ [y]).length, by rw [List.length_append, List.length_singleton]; omega, h₅, tk₄, ys ++ [y], rfl, ?_, ?_, ?_, ?_, ?_, rfl, ?_⟩
    · have := W.frame _ _ h₅ hst₂ fun b hb o e => hs₅.extBut b o (fun h => hDf (h ▸ hb)) (hk₄ b o e)
      simpa using this
    · obtain ⟨nn, e⟩ := hl₅
      exact ⟨nn, by rw [e]; simp⟩
    · exact hT₂.at (fun o e => hs₅.extBut _ o (Ne.symm hDC) (hk₄ _ o e)) (fun o e => hs₅.extBut _ o (Ne.symm hDc) (hk₄ _ o e))
    · intro i z hz
      by_cases hi : i < ys.length
      · rw [List.getElem?_append_left hi] at hz
        refine hG.up _ _ H _ _ (hGs i z hz) fun b o hb e => ?_
        have b1 : b ≠ c := Nat.ne_of_gt (Nat.lt_of_lt_of_le hcl hb)
        have b2 : b ∉ wr := fun q => Nat.lt_irrefl _ (Nat.lt_of_lt_of_le (hfl b (W.sub _ q)) hb)
        have b3 : b ≠ D := Nat.ne_of_gt (Nat.lt_of_lt_of_le hDl hb)
        exact hs₅.extBut b o b3 (hk₄ b o (up₂ b o b1 b2 e))
      · by_cases hi2 : i = ys.length
        · subst hi2
          simp at hz
          subst hz
          refine hG.down _ h₂.objs.size _ _ _ hlt₂ (hG.up _ _ h₄ _ _ hGy fun b o hb e => ?_)
          exact hs₅.extBut b o (Nat.ne_of_gt (Nat.lt_of_lt_of_le (Nat.lt_of_lt_of_le hDl hlt₂) hb)) e
        · rw [List.getElem?_eq_none (by rw [List.length_append, List.length_singleton]; omega)] at hz
          cases hz
    · rw [List.length_append, List.length_singleton]; exact hlt
    · exact fun b o hbc hbf hbD e => hs₅.extBut b o hbD (hk₄ b o (up₂ b o hbc hbf (hkp b o hbc hbf hbD e)))
  · have hin : ys.length = n := by omega
    refine W.done _ _ _ (hin ▸ hst') fun h₁ tk₁ hk₁ => ?_
    refine hR h₁ tk₁ ys (hT'.at (fun o e => hk₁ _ o hCw e) (fun o e => hk₁ _ o hcw e)) (hacc'.at fun o e => hk₁ _ o hDw e) hin ?_ fun b o hbc hbf hbD e => hk₁ b o hbf (hkp b o hbc hbf hbD e)
    intro i z hz
    refine hG.up _ _ H _ _ (hGs i z hz) fun b o hb e => ?_
    exact hk₁ b o (fun q => Nat.lt_irrefl _ (Nat.lt_of_lt_of_le (hfl b (W.sub _ q)) hb)) e

abbrev cellObj : Obj := { cls := .type "cell", data := .cell none }

theorem newEnv_comp {scope : Scope} {cl : List (Str × Addr)} {Q : Env → Shared → Prop}
    (h : Q (newEnv scope s.heap.objs.size env.globals (cellsFrom (s.heap.objs.size + 1) scope.names cl) env.qual none .none (some env) builtinsNs) { s with heap := pushCells (s.heap.push { cls := .type "dict", data := .dict #[] }) scope.names }) :
    wpAny (model prog w) A (newFunctionEnv scope env.globals cl [] env.qual none .none (some env)) Q E s := by
  simp only [newFunctionEnv, Option.isSome_some, if_true]
  refine wpAny_bind (wpAny_alloc ?_)
  refine wpAny_bind (wpAny_layCells _ (fun name kind cells => by cases hkc : kind == NameKind.cell <;> simp [hkc]) _ _ _ _ ?_)
  rw [show ({ s with heap := s.heap.push { cls := .type "dict", data := .dict #[] } } : Shared).heap.objs.size = s.heap.objs.size + 1 from Heap.size_push ..]
  exact wpAny_bind (wpAny_pure (wpAny_pure h))

theorem comp_rule {elt iter : Expr} {x : Str} {px : Pos} {scope : Scope} {cl : List (Str × Addr)} {pos : Pos} {Q : Value → Shared → Prop} (kind : Bool)
    (hclos : closureFor scope env = pure cl) (hcf : ∀ n, cellsFrom n scope.names cl = if kind then (x, n) :: cl else cl) (hpc : ∀ h, pushCells h scope.names = if kind then h.push cellObj else h)
    (hkind : scope.kind = .function) (hnames : ∀ y ∈ scope.names, y.2 = .local → scope.names.lookup y.1 = some .local)
    (hx : (relabel scope env).names.lookup x = some (if kind then .cell else .local)) {G : Nat → Nat → Heap → Value → Prop} (hG : Stable G)
    (h : wpAny (model prog w) A (eval iter env) (fun xv s₁ => wpAny (model prog w) A (pyIter xv) (fun it s₂ => ∃ I fp wr n P St, it = .ref I ∧ Walks prog w A I fp wr n P St ∧ n ≤ sizeLine ∧ St 0 s₂.heap ∧ (∀ b ∈ fp, b < s₂.heap.objs.size) ∧
      (∀ C i v s₃ E', s₂.heap.objs.size ≤ C → i < n → P i v → NameIs (compEnvC scope (if kind then (x, C + 1) :: cl else cl) C env) s₃.heap x v →
        (∀ b o, b ∉ wr → s₂.heap.get? b = some o → s₃.heap.get? b = some o) → (∃ h tk, s₃ = { s₂ with heap := h, toks := tk }) →
        wpAny (model prog w) A (eval elt (compEnvC scope (if kind then (x, C + 1) :: cl else cl) C env)) (fun y s₄ => G i s₃.heap.objs.size s₄.heap y ∧ Keeps s₃ s₄) E' s₃) ∧
      (∀ D h' tk (ys : List Value), s₂.heap.objs.size ≤ D → h'.PlainList D ys.toArray → ys.length = n → (∀ i y, ys[i]? = some y → G i s₂.heap.objs.size h' y) →
        (∀ b o, b ∉ wr → s₂.heap.get? b = some o → h'.get? b = some o) → Q (.ref D) { s₂ with heap := h', toks := tk })) E s₁) E s)
    (hs : ∀ x, foldedSetIterable iter env x = pure x := by intro _; rfl) :
    wpAny (model prog w) A (eval (.ListComp elt [⟨.Name x px, iter, [], 0⟩] scope pos) env) Q E s := by
  rw [eval_ListComp]
  refine wpAny_comprehension_free (use := none) rfl hs hclos hkind hnames (wpAny_mono h (fun xv s₁ h₁ => wpAny_mono h₁ (fun it s₂ h₂ => ?_) fun _ _ e => e) fun _ _ e => e)
  obtain ⟨I, fp, wr, n, P, St, rfl, W, hsz, hst, hfp, helt, hfin⟩ := h₂
  refine wpAny_newObj_type (newEnv_comp ?_)
  dsimp only
  rw [hcf, hpc]
  generalize hH2 : s₂.heap.push { cls := .type "list", dict := none, data := .seq ([] : List Value).toArray } = H2
  have hC : H2.objs.size = s₂.heap.objs.size + 1 := by rw [← hH2, Heap.size_push]
  have hk2 : Grow s₂.heap H2 := fun b o e => hH2 ▸ Heap.get?_push_of_some _ e
  have hD2 : H2.get? s₂.heap.objs.size = some { cls := .type "list", dict := none, data := .seq ([] : List Value).toArray } := hH2 ▸ Heap.get?_push_size _ rfl
  generalize hD : s₂.heap.objs.size = D at *
  generalize hC' : H2.objs.size = C at *
  subst hC
  have hn2 : (H2.push { cls := .type "dict", data := .dict #[] }).Ns (D + 1) (fun _ => none) := hC' ▸ Heap.Ns.new H2 (.type "dict")
  have hs2 : (H2.push { cls := .type "dict", data := .dict #[] }).objs.size = D + 2 := by rw [Heap.size_push, hC']
  have hk3 : Grow H2 (H2.push { cls := .type "dict", data := .dict #[] }) := fun b o e => Heap.get?_push_of_some _ e
  generalize H2.push { cls := .type "dict", data := .dict #[] } = H3 at *
  have fpne : ∀ b, D ≤ b → b ∉ fp := fun b hb hm => Nat.lt_irrefl _ (Nat.lt_of_lt_of_le (hfp b hm) hb)
  have old : Grow s₂.heap H3 := fun b o e => hk3 b o (hk2 b o e)
  have oldlt : ∀ b o, s₂.heap.get? b = some o → b < D := fun b o e => hD ▸ Heap.lt_size e
  -- the block, whatever its cells
  have block : ∀ (H4 : Heap) (cells : List (Str × Addr)) (c : Addr), Grow H3 H4 → D + 1 ≤ c → cells = (if kind then (x, D + 1 + 1) :: cl else cl) → Tgt (compEnvC scope cells (D + 1) env) x c H4 →
      codeAny (model prog w) A (.compStart (.ListComp elt [⟨.Name x px, iter, [], 0⟩] scope pos) 0 (.ref I) (.ref D) (compEnvC scope cells (D + 1) env)) (compPost (model prog w) A E none Q (.ref D) (D + 1)) { s₂ with heap := H4 } := by
    intro H4 cells c hk4 hDc hcells hT
    have old4 : Grow s₂.heap H4 := fun b o e => hk4 b o (old b o e)
    have hst4 : St 0 H4 := W.frame _ _ _ hst fun b _ o e => old4 b o e
    have loop : codeAny (model prog w) A (.compLoop (.ListComp elt [⟨.Name x px, iter, [], 0⟩] scope pos) 0 (.ref I) (.ref D) (compEnvC scope cells (D + 1) env)) (compPost (model prog w) A E none Q (.ref D) (D + 1)) { s₂ with heap := H4 } := by
      refine compLoop_G (lo := c + 1) (c := c) W hG (by show (relabel scope env).kind = _; exact hkind) (Nat.ne_of_lt (Nat.lt_succ_self D)) (Nat.ne_of_lt hDc) (fpne D (Nat.le_refl _)) (fpne _ (Nat.le_succ D))
        (fpne c (Nat.le_of_succ_le hDc)) (Nat.lt_succ_of_lt hDc) (Nat.lt_succ_self c) (fun b hb => Nat.lt_of_lt_of_le (hfp b hb) (Nat.le_trans (Nat.le_of_succ_le hDc) (Nat.le_succ c))) rfl hst4
        ⟨0, hk4 _ _ (hk3 _ _ hD2)⟩ hT ?_ ?_ hsz
      · intro i v s₃ E' hi hPv hN hk ⟨h3, tk3, e3⟩
        subst hcells
        refine helt (D + 1) i v s₃ E' (Nat.le_succ D) hi hPv hN (fun b o hb e => hk b o ?_ hb ?_ (old4 b o e)) ⟨h3, tk3, by rw [e3]⟩
        · exact Nat.ne_of_lt (Nat.lt_of_lt_of_le (oldlt b o e) (Nat.le_of_succ_le hDc))
        · exact Nat.ne_of_lt (oldlt b o e)
      · intro h' tk ys hT' hl hlen hGs hk
        refine ⟨_, hT'.1.choose_spec, fun h'' hs'' => ?_⟩
        refine hfin D h'' tk ys (Nat.le_refl _) (hl.extBut hs''.extBut (Nat.ne_of_lt (Nat.lt_succ_self D))) hlen (fun i y hy => ?_) fun b o hb e => ?_
        · refine hG.down _ (c + 1) _ _ _ (Nat.le_trans (Nat.le_of_succ_le hDc) (Nat.le_succ c)) (hG.up _ _ _ _ _ (hGs i y hy) fun b o hb e => hs''.extBut b o ?_ e)
          exact Nat.ne_of_gt (Nat.lt_of_le_of_lt hDc hb)
        · have hlt := oldlt b o e
          refine hs''.extBut b o (Nat.ne_of_lt (Nat.lt_succ_of_lt hlt)) (hk b o ?_ hb ?_ (old4 b o e))
          · exact Nat.ne_of_lt (Nat.lt_of_lt_of_le hlt (Nat.le_of_succ_le hDc))
          · exact Nat.ne_of_lt hlt
    exact codeAny_compStart_list loop (W.self 0 _ _ _ hst4 loop)
  cases kind with
  | false => exact block H3 cl (D + 1) (fun _ _ e => e) (Nat.le_refl _) rfl ⟨⟨_, hn2⟩, .inl ⟨hx, rfl⟩⟩
  | true =>
    simp only [if_true]
    refine block (H3.push cellObj) ((x, D + 1 + 1) :: cl) (D + 1 + 1) (fun b o e => Heap.get?_push_of_some _ e) (Nat.le_succ _) rfl ⟨⟨_, hn2.keeps fun b o e => Heap.get?_push_of_some _ e⟩, .inr ⟨hx, ?_, ?_, none, cellObj, ?_, rfl⟩⟩
    · show List.lookup x ((x, D + 1 + 1) :: cl) = _
      simp [List.lookup_cons]
    · exact Nat.ne_of_gt (Nat.lt_succ_self _)
    · have := Heap.get?_push_size H3 (o := cellObj) rfl
      rw [hs2] at this
      exact this

/-- what a block goes over: a list, or a range by ones -/
inductive Src (h : Heap) : Value → Nat → (Nat → Value → Prop) → Prop
  | list {a : Addr} {items : List Value} : h.IsList a items.toArray → Src h (.ref a) items.length (fun i v => items[i]? = some v)
  | range {r : Addr} {a b : Int} {t u v : Tok} {n : Nat} : IsRange h r a b 1 t u v → Builtin.Range.small a b 1 = true → Builtin.Range.rangeSize a b 1 = ((n : Nat) : Int) → Src h (.ref r) n (fun i v => ∃ t, v = .int (a + (i : Int)) t)

theorem comp_src {elt iter : Expr} {x : Str} {px : Pos} {scope : Scope} {cl : List (Str × Addr)} {pos : Pos} {Q : Value → Shared → Prop} (kind : Bool) (hh : A.handled = none)
    (hclos : closureFor scope env = pure cl) (hcf : ∀ n, cellsFrom n scope.names cl = if kind then (x, n) :: cl else cl) (hpc : ∀ h, pushCells h scope.names = if kind then h.push cellObj else h)
    (hkind : scope.kind = .function) (hnames : ∀ y ∈ scope.names, y.2 = .local → scope.names.lookup y.1 = some .local)
    (hx : (relabel scope env).names.lookup x = some (if kind then .cell else .local)) {G : Nat → Nat → Heap → Value → Prop} (hG : Stable G)
    (hs : ∀ x, foldedSetIterable iter env x = pure x)
    (h : wpAny (model prog w) A (eval iter env) (fun xv s₁ => ∃ n P, Src s₁.heap xv n P ∧ n ≤ 1000 ∧
      (∀ C i v s₃ E', i < n → P i v → NameIs (compEnvC scope (if kind then (x, C + 1) :: cl else cl) C env) s₃.heap x v → Grow s₁.heap s₃.heap →
        wpAny (model prog w) A (eval elt (compEnvC scope (if kind then (x, C + 1) :: cl else cl) C env)) (fun y s₄ => G i s₃.heap.objs.size s₄.heap y ∧ Keeps s₃ s₄) E' s₃) ∧
      (∀ D h' tk (ys : List Value), s₁.heap.objs.size ≤ D → h'.PlainList D ys.toArray → ys.length = n → (∀ i y, ys[i]? = some y → G i s₁.heap.objs.size h' y) →
        Grow s₁.heap h' → Q (.ref D) { s₁ with heap := h', toks := tk })) E s) :
    wpAny (model prog w) A (eval (.ListComp elt [⟨.Name x px, iter, [], 0⟩] scope pos) env) Q E s := by
  refine comp_rule kind hclos hcf hpc hkind hnames hx hG (wpAny_mono h (fun xv s₁ h₁ => ?_) fun _ _ e => e) hs
  obtain ⟨n, P, S, hn, helt, hfin⟩ := h₁
  have pushGrow : ∀ o : Obj, Grow s₁.heap (s₁.heap.push o) := fun o b ob e => Heap.get?_push_of_some _ e
  have ne : ∀ b o, s₁.heap.get? b = some o → b ∉ [s₁.heap.objs.size] := fun b o e q => by
    rw [List.mem_singleton] at q; subst q; exact Nat.lt_irrefl _ (Heap.lt_size e)
  cases S with
  | @list a items hl =>
    refine wpAny_pyIter_list hl ?_
    have hlt : a < s₁.heap.objs.size := Heap.lt_size hl.choose_spec.1
    refine ⟨_, _, _, _, _, _, rfl, Walks.list hh s₁.heap.objs.size a (Nat.ne_of_lt hlt) items.toArray, ?_, ⟨⟨_, Heap.get?_push_size _ rfl, rfl, rfl⟩, hl.push _⟩, ?_, ?_, ?_⟩
    · rw [sizeLine_eq, List.size_toArray]; omega
    · intro b hb
      show b < (s₁.heap.push _).objs.size
      rw [Heap.size_push]
      rcases List.mem_cons.mp hb with rfl | hb
      · exact Nat.lt_succ_self _
      · rw [List.mem_singleton.mp hb]; exact Nat.lt_succ_of_lt hlt
    · intro C i v s₃ E' _ hi hv hN hk _
      exact helt C i v s₃ E' (by simpa using hi) (by simpa using hv) hN fun b o e => hk b o (ne b o e) (pushGrow _ b o e)
    · intro D h' tk ys hD hl' hlen hGs hk
      refine hfin D h' tk ys (Nat.le_trans (by dsimp only; rw [Heap.size_push]; exact Nat.le_succ _) hD) hl' (by simpa using hlen) (fun i y hy => hG.down _ _ _ _ _ (by dsimp only; rw [Heap.size_push]; exact Nat.le_succ _) (hGs i y hy)) fun b o e => hk b o (ne b o e) (pushGrow _ b o e)
  | @range r a b t u v n hr hsm hrn =>
    refine wpAny_pyIter_range hr hsm ?_
    refine ⟨_, _, _, _, _, _, rfl, PyProof.Rows.LCg.range_walks (I := s₁.heap.objs.size) hh a n, ?_, ?_, ?_, ?_, ?_⟩
    · rw [sizeLine_eq]; omega
    · show IsRangeIter _ _ _ _ _; rw [hrn]; simpa using Heap.get?_push_size _ rfl
    · intro b hb
      show b < (s₁.heap.push _).objs.size
      rw [Heap.size_push, List.mem_singleton.mp hb]
      exact Nat.lt_succ_self _
    · intro C i v s₃ E' _ hi hv hN hk _
      exact helt C i v s₃ E' hi hv hN fun b o e => hk b o (ne b o e) (pushGrow _ b o e)
    · intro D h' tk ys hD hl' hlen hGs hk
      refine hfin D h' tk ys (Nat.le_trans (by dsimp only; rw [Heap.size_push]; exact Nat.le_succ _) hD) hl' hlen (fun i y hy => hG.down _ _ _ _ _ (by dsimp only; rw [Heap.size_push]; exact Nat.le_succ _) (hGs i y hy)) fun b o e => hk b o (ne b o e) (pushGrow _ b o e)

end
end Mine

namespace Mine
open PySem.Builtin PySem.Builtin.Str PySem.Calls
section
variable {prog : Program} {w : World} {A : Around} {E : Value → Shared → Prop} {s : Shared} {env : Env}

theorem comp_ruleA {elt iter : Expr} {x y : Str} {px py : Pos} {scope : Scope} {cl : List (Str × Addr)} {pos spos : Pos} {Q : Flow → Shared → Prop} (kind : Bool)
    (hsw : swapsWith (.ListComp elt [⟨.Name x px, iter, [], 0⟩] scope pos) (some (.Name y py)) spos.line env = pure true)
    (hy : env.kindOf y = some .local) (hke : env.scope.kind = .function)
    (hclos : closureFor scope env = pure cl) (hcf : ∀ n, cellsFrom n scope.names cl = if kind then (x, n) :: cl else cl) (hpc : ∀ h, pushCells h scope.names = if kind then h.push cellObj else h)
    (hkind : scope.kind = .function) (hnames : ∀ y ∈ scope.names, y.2 = .local → scope.names.lookup y.1 = some .local)
    (hx : (relabel scope env).names.lookup x = some (if kind then .cell else .local)) {G : Nat → Nat → Heap → Value → Prop} (hG : Stable G)
    (h : wpAny (model prog w) A (eval iter env) (fun xv s₁ => wpAny (model prog w) A (pyIter xv) (fun it s₂ => ∃ I fp wr n P St m, it = .ref I ∧ env.locals ∉ wr ∧ s₂.heap.Ns env.locals m ∧ Walks prog w A I fp wr n P St ∧ n ≤ sizeLine ∧ St 0 s₂.heap ∧ (∀ b ∈ fp, b < s₂.heap.objs.size) ∧
      (∀ C i v s₃ E', s₂.heap.objs.size ≤ C → i < n → P i v → NameIs (compEnvC scope (if kind then (x, C + 1) :: cl else cl) C env) s₃.heap x v →
        (∀ b o, b ∉ wr → s₂.heap.get? b = some o → s₃.heap.get? b = some o) → (∃ h tk, s₃ = { s₂ with heap := h, toks := tk }) →
        wpAny (model prog w) A (eval elt (compEnvC scope (if kind then (x, C + 1) :: cl else cl) C env)) (fun y s₄ => G i s₃.heap.objs.size s₄.heap y ∧ Keeps s₃ s₄) E' s₃) ∧
      (∀ D h' tk (ys : List Value), s₂.heap.objs.size ≤ D → h'.Ns env.locals (fun z => if z = y then some (.ref D) else m z) → h'.PlainList D ys.toArray → ys.length = n → (∀ i y, ys[i]? = some y → G i s₂.heap.objs.size h' y) →
        (∀ b o, b ≠ env.locals → b ∉ wr → s₂.heap.get? b = some o → h'.get? b = some o) → Q .next { s₂ with heap := h', toks := tk })) E s₁) E s)
    (hs : ∀ x, foldedSetIterable iter env x = pure x := by intro _; rfl) :
    wpAny (model prog w) A (exec (.Assign [.Name y py] (.ListComp elt [⟨.Name x px, iter, [], 0⟩] scope pos) spos) env) Q E s := by
  rw [exec_Assign_Name_used _ _ _ _ hsw]
  refine wpAny_bind (wpAny_standAt (wpAny_bind ?_))
  show wpAny _ A (do let _ ← comprehension (.ListComp elt [⟨.Name x px, iter, [], 0⟩] scope pos) scope env _ (newList []) false (eval iter env) (some (assign (.Name y py) env))) _ _ s
  refine wpAny_bind (wpAny_mono (wpAny_comprehension_free (use := some (assign (.Name y py) env)) (Q := fun _ s' => Q .next s') rfl hs hclos hkind hnames
    (wpAny_mono h (fun xv s₁ h₁ => wpAny_mono h₁ (fun it s₂ h₂ => ?_) fun _ _ e => e) fun _ _ e => e)) (fun _ s' hq => wpAny_pure (wpAny_pure hq)) fun _ _ e => e)
  obtain ⟨I, fp, wr, n, P, St, m, rfl, hLw, hLn, W, hsz, hst, hfp, helt, hfin⟩ := h₂
  refine wpAny_newObj_type (newEnv_comp ?_)
  dsimp only
  rw [hcf, hpc]
  generalize hH2 : s₂.heap.push { cls := .type "list", dict := none, data := .seq ([] : List Value).toArray } = H2
  have hC : H2.objs.size = s₂.heap.objs.size + 1 := by rw [← hH2, Heap.size_push]
  have hk2 : Grow s₂.heap H2 := fun b o e => hH2 ▸ Heap.get?_push_of_some _ e
  have hD2 : H2.get? s₂.heap.objs.size = some { cls := .type "list", dict := none, data := .seq ([] : List Value).toArray } := hH2 ▸ Heap.get?_push_size _ rfl
  generalize hD : s₂.heap.objs.size = D at *
  generalize hC' : H2.objs.size = C at *
  subst hC
  have hn2 : (H2.push { cls := .type "dict", data := .dict #[] }).Ns (D + 1) (fun _ => none) := hC' ▸ Heap.Ns.new H2 (.type "dict")
  have hs2 : (H2.push { cls := .type "dict", data := .dict #[] }).objs.size = D + 2 := by rw [Heap.size_push, hC']
  have hk3 : Grow H2 (H2.push { cls := .type "dict", data := .dict #[] }) := fun b o e => Heap.get?_push_of_some _ e
  generalize H2.push { cls := .type "dict", data := .dict #[] } = H3 at *
  have fpne : ∀ b, D ≤ b → b ∉ fp := fun b hb hm => Nat.lt_irrefl _ (Nat.lt_of_lt_of_le (hfp b hm) hb)
  have old : Grow s₂.heap H3 := fun b o e => hk3 b o (hk2 b o e)
  have oldlt : ∀ b o, s₂.heap.get? b = some o → b < D := fun b o e => hD ▸ Heap.lt_size e
  -- the block, whatever its cells
  have block : ∀ (H4 : Heap) (cells : List (Str × Addr)) (c : Addr), Grow H3 H4 → D + 1 ≤ c → cells = (if kind then (x, D + 1 + 1) :: cl else cl) → Tgt (compEnvC scope cells (D + 1) env) x c H4 →
      codeAny (model prog w) A (.compStart (.ListComp elt [⟨.Name x px, iter, [], 0⟩] scope pos) 0 (.ref I) (.ref D) (compEnvC scope cells (D + 1) env)) (compPost (model prog w) A E (some (assign (.Name y py) env)) (fun _ s' => Q .next s') (.ref D) (D + 1)) { s₂ with heap := H4 } := by
    intro H4 cells c hk4 hDc hcells hT
    have old4 : Grow s₂.heap H4 := fun b o e => hk4 b o (old b o e)
    have hst4 : St 0 H4 := W.frame _ _ _ hst fun b _ o e => old4 b o e
    have loop : codeAny (model prog w) A (.compLoop (.ListComp elt [⟨.Name x px, iter, [], 0⟩] scope pos) 0 (.ref I) (.ref D) (compEnvC scope cells (D + 1) env)) (compPost (model prog w) A E (some (assign (.Name y py) env)) (fun _ s' => Q .next s') (.ref D) (D + 1)) { s₂ with heap := H4 } := by
      refine compLoop_G (lo := c + 1) (c := c) W hG (by show (relabel scope env).kind = _; exact hkind) (Nat.ne_of_lt (Nat.lt_succ_self D)) (Nat.ne_of_lt hDc) (fpne D (Nat.le_refl _)) (fpne _ (Nat.le_succ D))
        (fpne c (Nat.le_of_succ_le hDc)) (Nat.lt_succ_of_lt hDc) (Nat.lt_succ_self c) (fun b hb => Nat.lt_of_lt_of_le (hfp b hb) (Nat.le_trans (Nat.le_of_succ_le hDc) (Nat.le_succ c))) rfl hst4
        ⟨0, hk4 _ _ (hk3 _ _ hD2)⟩ hT ?_ ?_ hsz
      · intro i v s₃ E' hi hPv hN hk ⟨h3, tk3, e3⟩
        subst hcells
        refine helt (D + 1) i v s₃ E' (Nat.le_succ D) hi hPv hN (fun b o hb e => hk b o ?_ hb ?_ (old4 b o e)) ⟨h3, tk3, by rw [e3]⟩
        · exact Nat.ne_of_lt (Nat.lt_of_lt_of_le (oldlt b o e) (Nat.le_of_succ_le hDc))
        · exact Nat.ne_of_lt (oldlt b o e)
      · intro h' tk ys hT' hl hlen hGs hk
        obtain ⟨mC, hmC⟩ := hT'.1
        have hLlt : env.locals < D := by obtain ⟨o, _, _, e, _⟩ := hLn; exact oldlt _ _ e
        have hLn' : h'.Ns env.locals m := hLn.at' fun o e => hk _ o (Nat.ne_of_lt (Nat.lt_of_lt_of_le hLlt (Nat.le_of_succ_le hDc))) hLw (Nat.ne_of_lt hLlt) (old4 _ o e)
        show wpAny _ A (assign (.Name y py) env (.ref D)) _ _ _
        refine wpAny_assign_Name (wpAny_storeName_local hy hLn' (fun h₂ hn₂ hs₂ => ?_) (by rw [hke]; rfl))
        dsimp only at hs₂
        refine ⟨mC, hmC.sameBut hs₂ (Nat.ne_of_gt (Nat.lt_succ_of_lt hLlt)), fun h'' hs'' => ?_⟩
        dsimp only at hs''
        have two : ∀ b o, b ≠ env.locals → b ≠ D + 1 → h'.get? b = some o → h''.get? b = some o := fun b o h1 h2 e => hs''.extBut b o h2 (hs₂.extBut b o h1 e)
        refine hfin D h'' _ ys (Nat.le_refl _) (hn₂.sameBut hs'' (Nat.ne_of_lt (Nat.lt_succ_of_lt hLlt))) (hl.at fun o e => two _ o (Nat.ne_of_gt hLlt) (Nat.ne_of_lt (Nat.lt_succ_self D)) e) hlen (fun i y hy => ?_) fun b o hbL hb e => ?_
        · refine hG.down _ (c + 1) _ _ _ (Nat.le_trans (Nat.le_of_succ_le hDc) (Nat.le_succ c)) (hG.up _ _ _ _ _ (hGs i y hy) fun b o hb e => two b o ?_ ?_ e)
          · exact Nat.ne_of_gt (Nat.lt_of_lt_of_le hLlt (Nat.le_trans (Nat.le_of_succ_le hDc) (Nat.le_trans (Nat.le_succ c) hb)))
          · exact Nat.ne_of_gt (Nat.lt_of_le_of_lt hDc hb)
        · have hlt := oldlt b o e
          refine two b o hbL (Nat.ne_of_lt (Nat.lt_succ_of_lt hlt)) (hk b o ?_ hb ?_ (old4 b o e))
          · exact Nat.ne_of_lt (Nat.lt_of_lt_of_le hlt (Nat.le_of_succ_le hDc))
          · exact Nat.ne_of_lt hlt
    exact codeAny_compStart_list loop (W.self 0 _ _ _ hst4 loop)
  cases kind with
  | false => exact block H3 cl (D + 1) (fun _ _ e => e) (Nat.le_refl _) rfl ⟨⟨_, hn2⟩, .inl ⟨hx, rfl⟩⟩
  | true =>
    simp only [if_true]
    refine block (H3.push cellObj) ((x, D + 1 + 1) :: cl) (D + 1 + 1) (fun b o e => Heap.get?_push_of_some _ e) (Nat.le_succ _) rfl ⟨⟨_, hn2.keeps fun b o e => Heap.get?_push_of_some _ e⟩, .inr ⟨hx, ?_, ?_, none, cellObj, ?_, rfl⟩⟩
    · show List.lookup x ((x, D + 1 + 1) :: cl) = _
      simp [List.lookup_cons]
    · exact Nat.ne_of_gt (Nat.lt_succ_self _)
    · have := Heap.get?_push_size H3 (o := cellObj) rfl
      rw [hs2] at this
      exact this

theorem comp_srcA {elt iter : Expr} {x y : Str} {px py : Pos} {scope : Scope} {cl : List (Str × Addr)} {pos spos : Pos} {Q : Flow → Shared → Prop} (kind : Bool) (hh : A.handled = none)
    (hsw : swapsWith (.ListComp elt [⟨.Name x px, iter, [], 0⟩] scope pos) (some (.Name y py)) spos.line env = pure true)
    (hy : env.kindOf y = some .local) (hke : env.scope.kind = .function)
    (hclos : closureFor scope env = pure cl) (hcf : ∀ n, cellsFrom n scope.names cl = if kind then (x, n) :: cl else cl) (hpc : ∀ h, pushCells h scope.names = if kind then h.push cellObj else h)
    (hkind : scope.kind = .function) (hnames : ∀ y ∈ scope.names, y.2 = .local → scope.names.lookup y.1 = some .local)
    (hx : (relabel scope env).names.lookup x = some (if kind then .cell else .local)) {G : Nat → Nat → Heap → Value → Prop} (hG : Stable G)
    (hs : ∀ x, foldedSetIterable iter env x = pure x)
    (h : wpAny (model prog w) A (eval iter env) (fun xv s₁ => ∃ n P m, Src s₁.heap xv n P ∧ n ≤ 1000 ∧ s₁.heap.Ns env.locals m ∧
      (∀ C i v s₃ E', i < n → P i v → NameIs (compEnvC scope (if kind then (x, C + 1) :: cl else cl) C env) s₃.heap x v → Grow s₁.heap s₃.heap →
        wpAny (model prog w) A (eval elt (compEnvC scope (if kind then (x, C + 1) :: cl else cl) C env)) (fun y s₄ => G i s₃.heap.objs.size s₄.heap y ∧ Keeps s₃ s₄) E' s₃) ∧
      (∀ D h' tk (ys : List Value), s₁.heap.objs.size ≤ D → h'.Ns env.locals (fun z => if z = y then some (.ref D) else m z) → h'.PlainList D ys.toArray → ys.length = n → (∀ i y, ys[i]? = some y → G i s₁.heap.objs.size h' y) →
        Heap.ExtBut env.locals s₁.heap h' → Q .next { s₁ with heap := h', toks := tk })) E s) :
    wpAny (model prog w) A (exec (.Assign [.Name y py] (.ListComp elt [⟨.Name x px, iter, [], 0⟩] scope pos) spos) env) Q E s := by
  refine comp_ruleA kind hsw hy hke hclos hcf hpc hkind hnames hx hG (wpAny_mono h (fun xv s₁ h₁ => ?_) fun _ _ e => e) hs
  obtain ⟨n, P, m, S, hn, hns, helt, hfin⟩ := h₁
  have hLne : env.locals ∉ [s₁.heap.objs.size] := by
    obtain ⟨o, _, _, e, _⟩ := hns
    intro q; rw [List.mem_singleton] at q; exact Nat.lt_irrefl _ (q ▸ Heap.lt_size e)
  have pushGrow : ∀ o : Obj, Grow s₁.heap (s₁.heap.push o) := fun o b ob e => Heap.get?_push_of_some _ e
  have ne : ∀ b o, s₁.heap.get? b = some o → b ∉ [s₁.heap.objs.size] := fun b o e q => by
    rw [List.mem_singleton] at q; subst q; exact Nat.lt_irrefl _ (Heap.lt_size e)
  cases S with
  | @list a items hl =>
    refine wpAny_pyIter_list hl ?_
    have hlt : a < s₁.heap.objs.size := Heap.lt_size hl.choose_spec.1
    refine ⟨_, _, _, _, _, _, m, rfl, hLne, hns.keeps (pushGrow _), Walks.list hh s₁.heap.objs.size a (Nat.ne_of_lt hlt) items.toArray, ?_, ⟨⟨_, Heap.get?_push_size _ rfl, rfl, rfl⟩, hl.push _⟩, ?_, ?_, ?_⟩
    · rw [sizeLine_eq, List.size_toArray]; omega
    · intro b hb
      show b < (s₁.heap.push _).objs.size
      rw [Heap.size_push]
      rcases List.mem_cons.mp hb with rfl | hb
      · exact Nat.lt_succ_self _
      · rw [List.mem_singleton.mp hb]; exact Nat.lt_succ_of_lt hlt
    · intro C i v s₃ E' _ hi hv hN hk _
      exact helt C i v s₃ E' (by simpa using hi) (by simpa using hv) hN fun b o e => hk b o (ne b o e) (pushGrow _ b o e)
    · intro D h' tk ys hD hn' hl' hlen hGs hk
      refine hfin D h' tk ys (Nat.le_trans (by dsimp only; rw [Heap.size_push]; exact Nat.le_succ _) hD) hn' hl' (by simpa using hlen) (fun i y hy => hG.down _ _ _ _ _ (by dsimp only; rw [Heap.size_push]; exact Nat.le_succ _) (hGs i y hy)) fun b o hb e => hk b o hb (ne b o e) (pushGrow _ b o e)
  | @range r a b t u v n hr hsm hrn =>
    refine wpAny_pyIter_range hr hsm ?_
    refine ⟨_, _, _, _, _, _, m, rfl, hLne, hns.keeps (pushGrow _), PyProof.Rows.LCg.range_walks (I := s₁.heap.objs.size) hh a n, ?_, ?_, ?_, ?_, ?_⟩
    · rw [sizeLine_eq]; omega
    · show IsRangeIter _ _ _ _ _; rw [hrn]; simpa using Heap.get?_push_size _ rfl
    · intro b hb
      show b < (s₁.heap.push _).objs.size
      rw [Heap.size_push, List.mem_singleton.mp hb]
      exact Nat.lt_succ_self _
    · intro C i v s₃ E' _ hi hv hN hk _
      exact helt C i v s₃ E' hi hv hN fun b o e => hk b o (ne b o e) (pushGrow _ b o e)
    · intro D h' tk ys hD hn' hl' hlen hGs hk
      refine hfin D h' tk ys (Nat.le_trans (by dsimp only; rw [Heap.size_push]; exact Nat.le_succ _) hD) hn' hl' hlen (fun i y hy => hG.down _ _ _ _ _ (by dsimp only; rw [Heap.size_push]; exact Nat.le_succ _) (hGs i y hy)) fun b o hb e => hk b o hb (ne b o e) (pushGrow _ b o e)

end
end Mine

namespace Mine
open PySem.Builtin PySem.Builtin.Str PySem.Calls

abbrev dots : List Nat := [46, 46, 46]
abbrev dotsS : Str := Str.ofString "..."
theorem dotsS_list : dotsS.cps.toList = dots := by decide
theorem dotsS_len : dotsS.length = 3 := by decide

/-- the places of "...", from the left, none lying over another; i is the place of the list's head -/
def scan : List Nat → Nat → List Nat
  | [], _ => []
  | c :: r, i => if (c :: r).take 3 = dots then i :: scan (r.drop 2) (i + 3) else scan r (i + 1)
termination_by l => l.length
decreasing_by all_goals (simp only [List.length_drop, List.length_cons]; omega)

def splitL : List Nat → List (List Nat)
  | [] => [[]]
  | c :: r => if (c :: r).take 3 = dots then [] :: splitL (r.drop 2) else (c :: (splitL r).headD []) :: (splitL r).tail
termination_by l => l.length
decreasing_by all_goals (simp only [List.length_drop, List.length_cons]; omega)

theorem splitL_ne (W : List Nat) : splitL W ≠ [] := by
  cases W with
  | nil => rw [splitL]; simp
  | cons c r =>
    rw [splitL]
    split <;> simp
theorem splitL_len : ∀ (n : Nat) (W : List Nat) (i : Nat), W.length ≤ n → (splitL W).length = (scan W i).length + 1 ∧ (scan W i).length ≤ W.length := by
  intro n
  induction n with
  | zero =>
    intro W i h
    have : W = [] := List.length_eq_zero_iff.mp (by omega)
    subst this
    rw [splitL, scan]; simp
  | succ n ih =>
    intro W i h
    cases W with
    | nil => rw [splitL, scan]; simp
    | cons c r =>
      rw [splitL, scan]
      simp only [List.length_cons] at h
      split
      · have := ih (r.drop 2) (i + 3) (by simp; omega)
        simp only [List.length_cons, List.length_drop] at this ⊢
        omega
      · have := ih r (i + 1) (by omega)
        have hne := splitL_ne r
        simp only [List.length_cons, List.length_tail]
        omega

theorem at_iff (x : Str) (i : Nat) : StrLaws.At x dotsS x.length i ↔ (x.cps.toList.drop i).take 3 = dots := by
  unfold StrLaws.At
  rw [StrLaws.subAt_eq, dotsS_list, dotsS_len]
  constructor
  · rintro ⟨_, h⟩
    exact beq_iff_eq.mp h
  · intro h
    refine ⟨?_, beq_iff_eq.mpr h⟩
    have := congrArg List.length h
    simp [Str.length] at this ⊢
    omega

theorem occ_scan (x : Str) (limit : Nat) : ∀ (n i : Nat) (found : Array Nat) (free : Nat), i + n = x.length + 1 → found.size + n ≤ limit →
    (forIn (List.range' i n) (found, free) (StrLaws.occBody x dotsS x.length limit)).run.fst.toList = found.toList ++ scan (x.cps.toList.drop (max free i)) (max free i) := by
  intro n
  induction n with
  | zero =>
    intro i found free hi _
    have hd : x.cps.toList.drop (max free i) = [] := List.drop_of_length_le (by simp [Str.length] at hi ⊢; omega)
    rw [hd, scan]
    simp
  | succ n ih =>
    intro i found free hi hl
    rw [List.range'_succ, List.forIn_cons]
    unfold StrLaws.occBody
    by_cases hc : ((found.size < limit ∧ free ≤ i) ∧ i + dotsS.length ≤ x.length) ∧ subAt x dotsS i = true
    · rw [if_pos hc]
      have hat : StrLaws.At x dotsS x.length i := ⟨hc.1.2, hc.2⟩
      have h3 := (at_iff x i).mp hat
      have hm : max free i = i := by have := hc.1.1.2; omega
      have hlt : i < x.cps.toList.length := by have := hc.1.2; rw [dotsS_len] at this; simp [Str.length] at this ⊢; omega
      have := ih (i + 1) (found.push i) (i + dotsS.length) (by omega) (by simp; omega)
      rw [show max (i + dotsS.length) (i + 1) = i + 3 by rw [dotsS_len]; omega] at this
      show (forIn (List.range' (i + 1) n) (found.push i, i + dotsS.length) (StrLaws.occBody x dotsS x.length limit)).run.fst.toList = _
      rw [this, hm, List.drop_eq_getElem_cons hlt, scan, if_pos (by rw [← List.drop_eq_getElem_cons hlt]; exact h3)]
      rw [List.drop_drop]
      simp [Nat.add_assoc, Nat.add_comm]
    · rw [if_neg hc]
      have := ih (i + 1) found free (by omega) (by omega)
      show (forIn (List.range' (i + 1) n) (found, free) (StrLaws.occBody x dotsS x.length limit)).run.fst.toList = _
      rw [this]
      congr 1
      by_cases hf : free ≤ i
      · rw [show max free (i + 1) = i + 1 by omega, show max free i = i by omega]
        by_cases hlt : i < x.cps.toList.length
        · rw [List.drop_eq_getElem_cons hlt, scan, if_neg]
          rw [← List.drop_eq_getElem_cons hlt]
          intro h3
          have hat := (at_iff x i).mpr h3
          exact hc ⟨⟨⟨by omega, hf⟩, hat.1⟩, hat.2⟩
        · rw [List.drop_of_length_le (by omega), List.drop_of_length_le (by omega), scan, scan]
      · rw [show max free (i + 1) = max free i by omega]

theorem occ_is (x : Str) : occurrences x dotsS 0 x.length (x.length + 1) = scan x.cps.toList 0 := by
  rw [StrLaws.occ_eq]
  have := occ_scan x (x.length + 1) (x.length + 1) 0 #[] 0 (by omega) (by simp)
  simpa using this

abbrev strOf (l : List Nat) : Str := ⟨l.toArray⟩
theorem strOf_list (l : List Nat) : (strOf l).cps.toList = l := by simp
theorem str_eq_of {x : Str} {l : List Nat} (h : x.cps.toList = l) : x = strOf l := Str.ext' (by rw [← h])

theorem parts_is (x : Str) : ∀ (n i a : Nat), (x.cps.toList.drop i).length ≤ n → a ≤ i →
    StrLaws.partsFrom x 3 a (scan (x.cps.toList.drop i) i) =
      strOf ((x.cps.toList.drop a).take (i - a) ++ (splitL (x.cps.toList.drop i)).headD []) :: ((splitL (x.cps.toList.drop i)).tail.map strOf) := by
  intro n
  induction n with
  | zero =>
    intro i a h ha
    have hd : x.cps.toList.drop i = [] := List.length_eq_zero_iff.mp (by omega)
    rw [hd, scan, splitL]
    show [strSub x a x.length] = _
    congr 1
    apply str_eq_of
    rw [StrLaws.strSub_toList]
    have hl : x.cps.toList.length ≤ i := by simpa using hd
    simp only [List.headD_cons, List.append_nil]
    rw [List.take_of_length_le (by simp [Str.length]), List.take_of_length_le (by simp at hl ⊢; omega)]
  | succ n ih =>
    intro i a h ha
    by_cases hlt : i < x.cps.toList.length
    · have hcons := List.drop_eq_getElem_cons hlt
      by_cases h3 : (x.cps.toList.drop i).take 3 = dots
      · have e1 : scan (x.cps.toList.drop i) i = i :: scan (x.cps.toList.drop (i + 3)) (i + 3) := by
          rw [hcons, scan, if_pos (by rw [← hcons]; exact h3), List.drop_drop]
        have e2 : splitL (x.cps.toList.drop i) = [] :: splitL (x.cps.toList.drop (i + 3)) := by
          rw [hcons, splitL, if_pos (by rw [← hcons]; exact h3), List.drop_drop]
        have hl3 : i + 3 ≤ x.cps.toList.length := by
          have := congrArg List.length h3
          simp at this ⊢; omega
        rw [e1, e2]
        show strSub x a i :: StrLaws.partsFrom x 3 (i + 3) _ = _
        rw [ih (i + 3) (i + 3) (by simp at h ⊢; omega) (Nat.le_refl _)]
        have hne := splitL_ne (x.cps.toList.drop (i + 3))
        congr 1
        · apply str_eq_of
          rw [StrLaws.strSub_toList]
          simp
        · simp only [Nat.sub_self, List.take_zero, List.nil_append, List.tail_cons]
          cases hs : splitL (x.cps.toList.drop (i + 3)) with
          | nil => exact absurd hs hne
          | cons w r => simp
      · have e1 : scan (x.cps.toList.drop i) i = scan (x.cps.toList.drop (i + 1)) (i + 1) := by
          rw [hcons, scan, if_neg (by rw [← hcons]; exact h3)]
        have e2 : splitL (x.cps.toList.drop i) = (x.cps.toList[i] :: (splitL (x.cps.toList.drop (i + 1))).headD []) :: (splitL (x.cps.toList.drop (i + 1))).tail := by
          rw [hcons, splitL, if_neg (by rw [← hcons]; exact h3)]
        rw [e1, e2, ih (i + 1) a (by simp at h ⊢; omega) (by omega)]
        congr 2
        simp only [List.headD_cons]
        rw [show i + 1 - a = (i - a) + 1 by omega, List.take_add_one]
        have : (x.cps.toList.drop a)[i - a]? = some x.cps.toList[i] := by
          rw [List.getElem?_drop, show a + (i - a) = i by omega, List.getElem?_eq_getElem hlt]
        rw [this]
        simp
    · have hd : x.cps.toList.drop i = [] := List.drop_of_length_le (by omega)
      rw [hd] at h
      rw [hd, scan, splitL]
      show [strSub x a x.length] = _
      congr 1
      apply str_eq_of
      rw [StrLaws.strSub_toList]
      simp only [List.headD_cons, List.append_nil]
      rw [List.take_of_length_le (by simp [Str.length]), List.take_of_length_le (by simp at hlt ⊢; omega)]

theorem kind_dots (x : Str) : ¬ PySem.Builtin.Str.strKind x < PySem.Builtin.Str.strKind dotsS := by
  have h1 : PySem.Builtin.Str.strKind dotsS = 1 := by decide +kernel
  rw [h1]
  unfold PySem.Builtin.Str.strKind
  split
  · omega
  · split <;> omega

theorem scan_nil_split : ∀ (n : Nat) (W : List Nat) (i : Nat), W.length ≤ n → scan W i = [] → splitL W = [W] := by
  intro n
  induction n with
  | zero =>
    intro W i h _
    have : W = [] := List.length_eq_zero_iff.mp (by omega)
    subst this
    rw [splitL]
  | succ n ih =>
    intro W i h hs
    cases W with
    | nil => rw [splitL]
    | cons c r =>
      rw [scan] at hs
      rw [splitL]
      split at hs
      · cases hs
      · rename_i h3
        rw [if_neg h3, ih r (i + 1) (by simpa using h) hs]
        rfl

theorem split_is (x : Str) : Txt.split x dotsS = (splitL x.cps.toList).map strOf := by
  have hkey := parts_is x x.cps.toList.length 0 0 (by simp) (Nat.le_refl _)
  simp only [List.drop_zero, Nat.sub_self, List.take_zero, List.nil_append] at hkey
  have hne := splitL_ne x.cps.toList
  have hfull : StrLaws.partsFrom x 3 0 (scan x.cps.toList 0) = (splitL x.cps.toList).map strOf := by
    rw [hkey]
    cases hs : splitL x.cps.toList with
    | nil => exact absurd hs hne
    | cons w r => simp
  have hnil : scan x.cps.toList 0 = [] → [x] = (splitL x.cps.toList).map strOf := fun h => by
    rw [scan_nil_split _ _ 0 (Nat.le_refl _) h, List.map_cons, List.map_nil, ← str_eq_of rfl]
  unfold Txt.split
  rw [occ_is]
  by_cases hl : x.length < dotsS.length
  · rw [if_pos (by simp [hl])]
    apply hnil
    cases hsc : scan x.cps.toList 0 with
    | nil => rfl
    | cons a r =>
      exfalso
      have ho := occ_is x
      rcases StrLaws.occ_head_from x dotsS 0 (x.length + 1) (by omega) with ⟨h0, _⟩ | ⟨i, r', h0, _, hat, _⟩
      · rw [ho, hsc] at h0; cases h0
      · have := hat.1; omega
  · rw [if_neg (by have hk := kind_dots x; simp only [hl, hk, decide_false, Bool.or_false]; decide)]
    by_cases he : (scan x.cps.toList 0).isEmpty = true
    · rw [if_pos he]
      exact hnil (by simpa using he)
    · rw [if_neg he, StrLaws.partsBetween_eq, dotsS_len]
      exact hfull

theorem occ1_nil (x : Str) : (occurrences x dotsS 0 x.length 1).isEmpty = true ↔ scan x.cps.toList 0 = [] := by
  have ho := occ_is x
  rcases StrLaws.occ_head_from x dotsS 0 1 (by omega) with ⟨h0, hn⟩ | ⟨i, r, h0, _, hat, _⟩
  · rw [h0]
    refine ⟨fun _ => ?_, fun _ => rfl⟩
    rcases StrLaws.occ_head_from x dotsS 0 (x.length + 1) (by omega) with ⟨h1, _⟩ | ⟨i, r', h1, _, hat, _⟩
    · rw [← ho, h1]
    · exact absurd hat (hn i (Nat.zero_le _))
  · rw [h0]
    refine ⟨fun h => by simp at h, fun h => ?_⟩
    rcases StrLaws.occ_head_from x dotsS 0 (x.length + 1) (by omega) with ⟨h1, hn⟩ | ⟨i', r', h1, _, _, _⟩
    · exact absurd hat (hn i (Nat.zero_le _))
    · rw [ho, h] at h1; cases h1

theorem split_two {want : Str} (h : ¬ (occurrences want (Str.ofString "...") 0 want.length 1).isEmpty = true) : 2 ≤ (Txt.split want (Str.ofString "...")).length := by
  rw [split_is, List.length_map, (splitL_len _ _ 0 (Nat.le_refl _)).1]
  have hs : scan want.cps.toList 0 ≠ [] := fun e => h ((occ1_nil want).mpr e)
  have := List.length_pos_iff.mpr hs
  omega
theorem split_short (want : Str) : (Txt.split want (Str.ofString "...")).length ≤ want.length + 1 := by
  rw [split_is, List.length_map, (splitL_len _ _ 0 (Nat.le_refl _)).1]
  have := (splitL_len _ want.cps.toList 0 (Nat.le_refl _)).2
  simp [Str.length] at this ⊢
  omega
end Mine

namespace Mine
open PySem.Builtin PySem.Builtin.Str PySem.Calls

def ellTail (got : Str) (ep : Int) : List Str → Int → Bool
  | [], _ => true
  | w :: ws, sp => if find4 got w sp ep < 0 then false else ellTail got ep ws (find4 got w sp ep + w.length)
def ellEnd (got : Str) (sp ep : Int) (ws : List Str) : Bool := if ep < sp then false else ellTail got ep ws sp
def ellMid (got : Str) (sp : Int) (ws : List Str) : Bool :=
  if (ws.getLastD Str.empty).length != 0 then (if Txt.endswith got (ws.getLastD Str.empty) then ellEnd got sp (got.length - (ws.getLastD Str.empty).length) ws.dropLast else false) else ellEnd got sp got.length ws
def ellTop (got : Str) (ws : List Str) : Bool :=
  if (ws.headD Str.empty).length != 0 then (if Txt.startswith got (ws.headD Str.empty) then ellMid got (ws.headD Str.empty).length ws.tail else false) else ellMid got 0 ws
def ellMatch (want got : Str) : Bool :=
  if (occurrences want (Str.ofString "...") 0 want.length 1).isEmpty then want == got else ellTop got (Txt.split want (Str.ofString "..."))

/-- the list of texts at ℓ, the call's own -/
def Ws (h₀ : Heap) (L : Addr) (h : Heap) (ℓ : Addr) (ys : List Str) : Prop :=
  ∃ vs n, StrsAre vs ys ∧ News h₀ L h [(ℓ, { cls := .type "list", data := .seq vs.toArray n })]

theorem StrsAre.get {vs : List Value} {ys : List Str} (h : StrsAre vs ys) {j : Nat} (hj : j < ys.length) : ∃ t, vs[j]? = some (.str (ys.getD j Str.empty) t) :=
  h.at (by rw [List.getD_eq_getElem?_getD, List.getElem?_eq_getElem hj]; rfl)
theorem StrsAre.eraseIdx : ∀ {vs : List Value} {ys : List Str}, StrsAre vs ys → ∀ k, StrsAre (vs.eraseIdx k) (ys.eraseIdx k)
  | _, _, .nil, _ => .nil
  | _, _, .cons _ _ r, 0 => r
  | _, _, .cons y t r, k + 1 => .cons y t (StrsAre.eraseIdx r k)

section
variable {prog : Program} {w : World} {A : Around} {E : Value → Shared → Prop} {s : Shared} {h₀ : Heap} {L ℓ : Addr} {ys : List Str}

theorem Ws.isList {h : Heap} (W : Ws h₀ L h ℓ ys) : ∃ vs, StrsAre vs ys ∧ h.IsList ℓ vs.toArray :=
  let ⟨vs, n, hv, N⟩ := W; ⟨vs, hv, _, (N _ (.head _)).1, rfl, n, rfl⟩
theorem Ws.set {h h' : Heap} (W : Ws h₀ L h ℓ ys) (hs : Heap.SameBut L h h') : Ws h₀ L h' ℓ ys :=
  let ⟨vs, n, hv, N⟩ := W; ⟨vs, n, hv, N.set hs⟩
theorem Ws.ne {h : Heap} (W : Ws h₀ L h ℓ ys) : ℓ ≠ L := let ⟨_, _, _, N⟩ := W; (N _ (.head _)).2.1
theorem Ws.fresh {h : Heap} (W : Ws h₀ L h ℓ ys) : h₀.get? ℓ = none := let ⟨_, _, _, N⟩ := W; (N _ (.head _)).2.2
theorem Ws.keeps {h h' : Heap} (W : Ws h₀ L h ℓ ys) (hk : ∀ b o, h.get? b = some o → h'.get? b = some o) : Ws h₀ L h' ℓ ys :=
  let ⟨vs, n, hv, N⟩ := W; ⟨vs, n, hv, fun p hp => ⟨hk _ _ (N p hp).1, (N p hp).2⟩⟩

theorem ws_first {value slice : Expr} {u : Tok} {Q : Value → Shared → Prop} (W : Ws h₀ L s.heap ℓ ys) (hi : 0 < ys.length)
    (h : ∀ t, Q (.str (ys.headD Str.empty) t) s)
    (hs : subscripted slice false (.ref ℓ) (.int 0 u) = operate [.ref ℓ, .int 0 u] (getItem (.ref ℓ) (.int 0 u)) := by with_unfolding_all rfl) (hg : ∀ r, letTemporaryGo value (.ref ℓ) r = pure () := by intro _; with_unfolding_all rfl) :
    wpAny (model prog w) A (subscriptTail value slice (.ref ℓ) (.int 0 u)) Q E s := by
  obtain ⟨vs, hv, hl⟩ := W.isList
  cases hv with
  | nil => simp at hi
  | cons y t r => exact item_list hl (by omega) (by omega) (x := .str y t) (by simp) (h t) hs hg
theorem ws_last {value slice : Expr} {u : Tok} {Q : Value → Shared → Prop} (W : Ws h₀ L s.heap ℓ ys) (hi : 0 < ys.length)
    (h : ∀ t, Q (.str (ys.getLastD Str.empty) t) s)
    (hs : subscripted slice false (.ref ℓ) (.int (-1) u) = operate [.ref ℓ, .int (-1) u] (getItem (.ref ℓ) (.int (-1) u)) := by with_unfolding_all rfl) (hg : ∀ r, letTemporaryGo value (.ref ℓ) r = pure () := by intro _; with_unfolding_all rfl) :
    wpAny (model prog w) A (subscriptTail value slice (.ref ℓ) (.int (-1) u)) Q E s := by
  obtain ⟨vs, hv, hl⟩ := W.isList
  have hlen := hv.len_eq
  obtain ⟨t, ht⟩ := StrsAre.get hv (j := ys.length - 1) (by omega)
  have e : ys.getD (ys.length - 1) Str.empty = ys.getLastD Str.empty := by
    rw [List.getLastD_eq_getLast?, List.getLast?_eq_getElem?, List.getD_eq_getElem?_getD]
  rw [e] at ht
  refine subscriptTail_builtin hl.typeIs slot_list_getitem.lookup (wpAny_getItem_list_neg hl (by omega) (by simp only [List.size_toArray]; omega) (by omega) (x := .str (ys.getLastD Str.empty) t) ?_ (h t)) hs hg
  have e2 : (-1 + ((vs.toArray.size : Nat) : Int)).toNat = ys.length - 1 := by simp only [List.size_toArray]; omega
  rw [e2]
  simpa using ht

theorem stS {name : Str} {scope : Scope} {a : Addr} {cd : Value} {m : Str → Option Value} {x : Str} {v : Value} {Q : Unit → Shared → Prop} (F : Fr h₀ L s.heap m)
    (h : ∀ h', Fr h₀ L h' (fun y => if y = x then some v else m y) → Heap.SameBut L s.heap h' → Q () { s with heap := h', toks := s.toks + 1 })
    (hk : scope.kind = .function := by rfl) (hl : (envOf name scope L a cd).kindOf x = some .local := by rfl) :
    wpAny (model prog w) A (storeName (envOf name scope L a cd) x v) Q E s :=
  wpAny_storeName_local hl F.ns (fun h' hn hs => h h' (F.set hn hs) hs)
    (by show (scope.kind == .class || (scope.kind == .module && L != mainGlobals)) = false; rw [hk]; rfl)

theorem ws_del {i : Int} {k : Nat} {u : Tok} {m : Str → Option Value} {Q : Unit → Shared → Prop} (F : Fr h₀ L s.heap m) (W : Ws h₀ L s.heap ℓ ys) (hsz : ys.length ≤ 1002) (hfit : Builtin.List.listFitsIndex i = true) (hi : seqIndex? i ys.length = some k)
    (h : ∀ h', Fr h₀ L h' m → Ws h₀ L h' ℓ (ys.eraseIdx k) → Q () { s with heap := h' }) :
    wpAny (model prog w) A (delItem (.ref ℓ) (.int i u)) Q E s := by
  obtain ⟨vs, n, hv, N⟩ := id W
  have hlen := hv.len_eq
  refine wpAny_delItem_plain (items := vs.toArray) ⟨n, (N _ (.head _)).1⟩ hfit (k := k) (by simpa [hlen] using hi) (fun h' hp hs => ?_) (by rw [sizeLine_eq]; simp only [List.size_toArray]; omega)
  refine h h' (Fr.same F hs W.ne W.fresh) ?_
  obtain ⟨n', hp⟩ := hp
  refine ⟨vs.eraseIdx k, n', StrsAre.eraseIdx hv k, fun p hp' => ?_⟩
  cases hp' with
  | head => exact ⟨by rw [hp]; simp, W.ne, W.fresh⟩
  | tail _ q => cases q
end

structure EllSt (s : Shared) (L ℓ : Addr) (got : Str) (t2 : Tok) (sp ep : Int) (ys : List Str) (m : Str → Option Value) (s' : Shared) : Prop where
  keep : ∃ h tk, s' = { s with heap := h, toks := tk }
  F : Fr s.heap L s'.heap m
  W : Ws s.heap L s'.heap ℓ ys
  len : ys.length ≤ 1002
  short : ∀ a ∈ ys, a.length ≤ 1000
  ws : m "ws" = some (.ref ℓ)
  got : m "got" = some (.str got t2)
  sp : ∃ t, m "startpos" = some (.int sp t)
  ep : ∃ t, m "endpos" = some (.int ep t)
theorem EllSt.keeps {s : Shared} {L ℓ : Addr} {got : Str} {t2 : Tok} {sp ep : Int} {ys : List Str} {m : Str → Option Value} {s' : Shared} (x : EllSt s L ℓ got t2 sp ep ys m s') : Keeps s s' := by
  obtain ⟨h, tk, rfl⟩ := x.keep
  exact ⟨h, tk, rfl, x.F.keep⟩
theorem mem_getLastD {ys : List Str} (h : 0 < ys.length) : ys.getLastD Str.empty ∈ ys := by
  rw [List.getLastD_eq_getLast?]
  cases h' : ys.getLast? with
  | none => rw [List.getLast?_eq_none_iff] at h'; subst h'; simp at h
  | some a => exact List.mem_of_getLast? h'
theorem seqIndex_zero {n : Nat} (h : 0 < n) : seqIndex? 0 n = some 0 := by
  have e : seqIndex? 0 n = if (decide ((0 : Int) ≤ 0) && decide ((0 : Int) < n)) = true then some (Int.toNat 0) else none := rfl
  rw [e, if_pos (by simp only [Bool.and_eq_true, decide_eq_true_eq]; omega)]
  rfl
theorem mem_headD {ys : List Str} (h : 0 < ys.length) : ys.headD Str.empty ∈ ys := by
  cases ys with
  | nil => simp at h
  | cons a r => exact List.mem_cons_self
theorem int_ne_zero {n : Nat} : (((n : Nat) : Int) != 0) = (n != 0) := by
  cases n <;> rfl

set_option maxHeartbeats 8000000 in
theorem ell_spec {prog : Program} {w : World} {A : Around} {E : Value → Shared → Prop} {s : Shared}
  (C : Cx w s.heap) (hroom : A.depth < recursionLimit) (hh : A.handled = none) {want got : Str} {t1 t2 : Tok} (hw : want.length ≤ 1000) (hg : got.length ≤ 1000) {Q : Value → Shared → Prop}
  (hQ : ∀ s', Keeps s s' → Q (.bool (ellMatch want got)) s') :
   wpAny (model prog w) A (call (.ref 21) [.str want t1, .str got t2]) Q E s := by
  refine call_fn C hroom (by rfl) (by rfl) (BindsTo.of_eq (by rfl)) (locs (by rfl)) (by decide) (by rfl) (by rfl) (by rfl) ?_
  intro L h₁ F C₁
  have hQ' : ∀ b s', ellMatch want got = b → Keeps s s' → Q (.bool b) s' := fun b s' e k => e ▸ hQ s' k
  have hh' : ∀ env, (A.deeper env).handled = none := fun _ => hh
  generalize hA' : A.deeper = AD at hh' 
  refine wpAny_execs_cons (wpAny_If (wpAny_isTrue_Compare1 (nameK C₁ (by rfl) (ld F (by rfl) (notIn_str (wpAny_truthy_bool ?_))))))
  split
  · rename_i hne
    refine wpAny_execs_cons (wpAny_Return_some (wpAny_Compare1 (ld F (by rfl) (ld F (by rfl) (eq_str ?_)))))
    have : ellMatch want got = (want == got) := by unfold ellMatch; rw [if_pos (by simpa using hne)]
    rw [← this]
    exact hQ _ ⟨_, _, rfl, F.keep⟩
  rename_i hne
  refine wpAny_execs_nil ?_
  dsimp only
  have he : ellMatch want got = ellTop got (Txt.split want (Str.ofString "...")) := by unfold ellMatch; rw [if_neg (by simpa using hne)]
  have h2 := split_two (want := want) (by simpa using hne)
  have h3 := split_short want
  refine wpAny_execs_cons (wpAny_Assign_Name (MethodCall_ (ld F (by rfl) (GM.split (callWith_method1 (args_cons (nameK C₁ (by rfl) (args_nil ?_))))))))
  dsimp only [List.cons_append, List.nil_append]
  refine splitN1A (news := []) F News.nil (by rfl) ?_ (by rw [sizeLine_eq]; omega)
  intro l h₂ k hsp hst hsh _ F₂ N₂
  dsimp only at N₂ ⊢
  have W₂ : Ws s.heap L h₂ h₁.objs.size (l.map (·.1)) := ⟨_, _, hst, N₂⟩
  clear N₂ hst
  rw [← hsp] at he h2 h3
  revert he h2 h3 hsh W₂
  generalize h₁.objs.size = ℓ
  generalize l.map (·.1) = ys
  intro he h2 h3 hsh W₂
  clear hsp
  refine stS F₂ ?_
  intro h₃ F₃ hs₃
  replace W₂ := W₂.set hs₃
  have C₃ : Cx w h₃ := C.keeps F₃.keep
  dsimp only
  refine wpAny_execs_cons (wpAny_Assert_holds (wpAny_isTrue_Compare1 (Call_ (nameB C₃ (by rfl) boot_len (by decide) (callWith_builtin1 (args_cons (ld F₃ (by rfl) (args_nil ?_))))))))
  obtain ⟨vs, hv, hl⟩ := W₂.isList
  refine len_strsA hl hv (by omega) (wpAny_Constant_int (ge_int (wpAny_truthy_bool ⟨by simp; omega, ?_⟩)))
  dsimp only
  refine wpAny_execs_cons ?_
  refine Assign_Tuple_swapped (names := [Str.ofString "startpos", Str.ofString "endpos"]) (Tuple_ (args_cons (wpAny_Constant_int (args_cons (Call_ (nameB C₃ (by rfl) boot_len (by decide) (callWith_builtin1 (args_cons (ld F₃ (by rfl) (args_nil (SBL.len (by omega) (args_nil ?_))))))))))))
  obtain ⟨vs₃, n₃, hv₃, N₃⟩ := W₂
  refine newTuple_N F₃ N₃ ?_ (by rw [sizeLine_eq]; simp)
  intro h₄ F₄ N₄
  refine unpackItemsN_ F₄ N₄ (News.isTup N₄ (.head _)) (hh' _) (by rfl) ?_
  intro h₅ F₅ N₅
  replace N₅ : News s.heap L h₅ [(ℓ, _)] := fun p hp => N₅ p (.tail _ hp)
  dsimp only
  refine assignInOrder_cons (bindName_ (stN F₅ N₅ ?_))
  intro h₆ F₆ N₆
  refine assignInOrder_cons (bindName_ (stN F₆ N₆ ?_))
  intro h₇ F₇ N₇
  refine assignInOrder_nil ?_
  dsimp only
  have W₇ : Ws s.heap L h₇ ℓ ys := ⟨vs₃, n₃, hv₃, N₇⟩
  clear N₇ N₆ N₅ N₄ N₃ F₆ F₅ F₄ hs₃ hl hv F₂ F₃
  -- w = ws[0]
  refine wpAny_execs_cons (wpAny_Assign_Name (Subscript_ (ld F₇ (by rfl) (wpAny_Constant_int (ws_first W₇ (by omega) ?_)))))
  intro tw
  refine stS F₇ ?_
  intro h₈ F₈ hs₈
  have W₈ := W₇.set hs₈
  dsimp only
  have hhd := hsh _ (mem_headD (ys := ys) (by omega))
  refine wpAny_execs_cons (wpAny_mono (Q := fun f s' => (f = .next ∧ ∃ m sp ys', EllSt s L ℓ got t2 sp got.length ys' m s' ∧ 0 < ys'.length ∧ ellMatch want got = ellMid got sp ys') ∨
    (f = .ret (.bool false) ∧ Keeps s s' ∧ ellMatch want got = false)) (wpAny_If (isTrue_plain (ld F₈ (by rfl) (SBL.truthy (by omega) ?_)))) ?_ (fun _ _ e => e))
  · rw [int_ne_zero]
    split
    · rename_i hne0
      refine wpAny_execs_cons (wpAny_If (isTrue_plain (MethodCall_ (ld F₈ (by rfl) (GM.startswith (callWith_method1 (args_cons (ld F₈ (by rfl) (args_nil ?_)))))))))
      dsimp only [List.cons_append, List.nil_append]
      refine SC.startswith (wpAny_truthy_bool ?_)
      split
      · rename_i hsw
        refine wpAny_execs_cons (wpAny_Assign_Name (Call_ (nameB (C.keeps F₈.keep) (by rfl) boot_len (by decide) (callWith_builtin1 (args_cons (ld F₈ (by rfl) (args_nil (SBL.len (by omega) ?_))))))))
        refine stS F₈ ?_
        intro h₉ F₉ hs₉
        have W₉ := W₈.set hs₉
        dsimp only
        refine wpAny_execs_cons (wpAny_Delete (wpAny_deleteEach_cons (wpAny_delete_Subscript (ld F₉ (by rfl) (wpAny_Constant_int (ws_del F₉ W₉ (by omega) (by decide) (k := 0) ?_ ?_))))))
        · exact seqIndex_zero (by omega)
        intro h₁₀ F₁₀ W₁₀
        refine wpAny_deleteEach_nil ?_
        dsimp only
        refine wpAny_execs_nil ?_
        dsimp only
        refine wpAny_execs_nil (.inl ⟨rfl, _, _, _, ⟨⟨_, _, rfl⟩, F₁₀, W₁₀, ?_, fun a ha => Nat.le_trans (hsh a (List.mem_of_mem_eraseIdx ha)) hw, by rfl, by rfl, ⟨_, by rfl⟩, ⟨_, by rfl⟩⟩, ?_, ?_⟩)
        · rw [List.length_eraseIdx]; split <;> omega
        · rw [List.length_eraseIdx]; split <;> omega
        · rw [h3, ellTop, if_pos hne0, if_pos hsw, List.eraseIdx_zero]
      · rename_i hsw
        refine wpAny_execs_cons (wpAny_Return_some (Constant_bool ?_))
        refine .inr ⟨rfl, ⟨_, _, rfl, F₈.keep⟩, ?_⟩
        rw [h3, ellTop, if_pos hne0, if_neg hsw]
    · rename_i hne0
      refine wpAny_execs_nil (.inl ⟨rfl, _, 0, ys, ⟨⟨_, _, rfl⟩, F₈, W₈, by omega, fun a ha => Nat.le_trans (hsh a ha) hw, by rfl, by rfl, ⟨_, by rfl⟩, ⟨_, by rfl⟩⟩, by omega, ?_⟩)
      rw [h3, ellTop, if_neg hne0]
  · intro f s' hf
    rcases hf with ⟨rfl, m, sp, ys', I, hpos, hel⟩ | ⟨rfl, hk, hel⟩
    · dsimp only
      clear F₇ F₈ W₇ W₈ hs₈ C₃ C₁ F h3 h2 he hsh hhd
      refine wpAny_execs_cons (wpAny_Assign_Name (Subscript_ (ld I.F I.ws (UnaryOp_ (wpAny_Constant_int (neg_int ?_))))))
      refine ws_last I.W hpos ?_
      intro tw'
      refine stS I.F ?_
      intro h₉ F₉ hs₉
      have W₉ := I.W.set hs₉
      dsimp only at F₉ W₉ hs₉ ⊢
      have hld := I.short _ (mem_getLastD hpos)
      obtain ⟨hI, tkI, rfl⟩ := I.keep
      obtain ⟨tsp, hsp⟩ := I.sp
      obtain ⟨tep, hep⟩ := I.ep
      refine wpAny_execs_cons (wpAny_mono (Q := fun f s' => (f = .next ∧ ∃ m ep ys'', EllSt s L ℓ got t2 sp ep ys'' m s' ∧ ellMatch want got = ellEnd got sp ep ys'') ∨
        (f = .ret (.bool false) ∧ Keeps s s' ∧ ellMatch want got = false)) (wpAny_If (isTrue_plain (ld F₉ (by rfl) (SBL.truthy (by omega) ?_)))) ?_ (fun _ _ e => e))
      · rw [int_ne_zero]
        split
        · rename_i hne0
          refine wpAny_execs_cons (wpAny_If (isTrue_plain (MethodCall_ (ld F₉ I.got (GM.endswith (callWith_method1 (args_cons (ld F₉ (by rfl) (args_nil ?_)))))))))
          dsimp only [List.cons_append, List.nil_append]
          refine SC.endswith (wpAny_truthy_bool ?_)
          split
          · rename_i hsw
            refine wpAny_execs_cons (wpAny_AugAssign_Name (ldn F₉ hep (Call_ (nameB (C.keeps F₉.keep) (by rfl) boot_len (by decide) (callWith_builtin1 (args_cons (ld F₉ (by rfl) (args_nil (SBL.len (by omega) (isub_int ?_))))))))))
            refine stS F₉ ?_
            intro h₁₀ F₁₀ hs₁₀
            have W₁₀ := W₉.set hs₁₀
            dsimp only
            refine wpAny_execs_cons (wpAny_Delete (wpAny_deleteEach_cons (wpAny_delete_Subscript (ld F₁₀ I.ws (UnaryOp_ (wpAny_Constant_int (neg_int (ws_del F₁₀ W₁₀ I.len (by decide) (k := ys'.length - 1) ?_ ?_))))))))
            · rw [seqIndex_neg (by omega) (by omega)]
              congr 1
              omega
            intro h₁₁ F₁₁ W₁₁
            refine wpAny_deleteEach_nil ?_
            dsimp only
            refine wpAny_execs_nil ?_
            dsimp only
            refine wpAny_execs_nil (.inl ⟨rfl, _, _, _, ⟨⟨_, _, rfl⟩, F₁₁, W₁₁, ?_, fun a ha => I.short a (List.mem_of_mem_eraseIdx ha), I.ws, I.got, ⟨_, hsp⟩, ⟨_, by rfl⟩⟩, ?_⟩)
            · have := I.len; rw [List.length_eraseIdx]; split <;> omega
            · rw [hel, ellMid, if_pos hne0, if_pos hsw, List.eraseIdx_length_sub_one]
          · rename_i hsw
            refine wpAny_execs_cons (wpAny_Return_some (Constant_bool ?_))
            refine .inr ⟨rfl, ⟨_, _, rfl, F₉.keep⟩, ?_⟩
            rw [hel, ellMid, if_pos hne0, if_neg hsw]
        · rename_i hne0
          refine wpAny_execs_nil (.inl ⟨rfl, _, _, ys', ⟨⟨_, _, rfl⟩, F₉, W₉, I.len, I.short, I.ws, I.got, ⟨_, hsp⟩, ⟨_, hep⟩⟩, ?_⟩)
          rw [hel, ellMid, if_neg hne0]
      · intro f s' hf
        clear I F₉ W₉ hs₉ hsp hep hel
        rcases hf with ⟨rfl, m, ep, ys'', I, hel⟩ | ⟨rfl, hk, hel⟩
        · dsimp only
          obtain ⟨tsp, hsp⟩ := I.sp
          obtain ⟨tep, hep⟩ := I.ep
          refine wpAny_execs_cons (wpAny_If (wpAny_isTrue_Compare1 (ld I.F hsp (ld I.F hep (gt_int (wpAny_truthy_bool ?_))))))
          split
          · rename_i hgt
            refine wpAny_execs_cons (wpAny_Return_some (Constant_bool ?_))
            have := hQ s' I.keeps
            rw [hel, ellEnd, if_pos (by simpa using hgt)] at this
            exact this
          · rename_i hgt
            refine wpAny_execs_nil ?_
            dsimp only
            rw [ellEnd, if_neg (by simpa using hgt)] at hel
            obtain ⟨vs, hv, hl⟩ := I.W.isList
            have hvl := hv.len_eq
            refine wpAny_execs_cons (wpAny_For (ld I.F I.ws (wpAny_pyIter_list hl ?_)))
            have hLlt : L < s'.heap.objs.size := Heap.lt_size I.F.ns.choose_spec.choose_spec.choose_spec.1
            have hℓlt : ℓ < s'.heap.objs.size := Heap.lt_size hl.choose_spec.1
            have hITs : s.heap.get? s'.heap.objs.size = none := by
              cases q : s.heap.get? s'.heap.objs.size with
              | none => rfl
              | some o => exact absurd (Heap.lt_size (I.F.keep _ _ q)) (Nat.lt_irrefl _)
            have hITL : s'.heap.objs.size ≠ L := Nat.ne_of_gt hLlt
            have hITℓ : ℓ ≠ s'.heap.objs.size := Nat.ne_of_lt hℓlt
            have hℓL := I.W.ne
            have hit₀ : (s'.heap.push { cls := Value.type "list_iterator", data := Data.fields #[Value.ref ℓ, Value.int 0 0] }).IsListIter s'.heap.objs.size ℓ 0 := ⟨_, Heap.get?_push_size _ rfl, rfl, rfl⟩
            have hlp := hl.at fun o e => Heap.get?_push_of_some { cls := Value.type "list_iterator", data := Data.fields #[Value.ref ℓ, Value.int 0 0] } e
            have Fp := I.F.push { cls := Value.type "list_iterator", data := Data.fields #[Value.ref ℓ, Value.int 0 0] }
            obtain ⟨hI, tkI, rfl⟩ := I.keep
            dsimp only at hit₀ hlp Fp hITL hITℓ hITs ⊢
            generalize hI.objs.size = IT at *
            refine codeAny_forLoop (fun n s' => ∃ h tk m i sp tsp, s' = { s with heap := h, toks := tk } ∧ Fr s.heap L h m ∧ h.IsListIter IT ℓ i ∧ h.IsList ℓ vs.toArray ∧
              m "got" = some (.str got t2) ∧ m "startpos" = some (.int sp tsp) ∧ m "endpos" = some (.int ep tep) ∧ ellMatch want got = ellTail got ep (ys''.drop i) sp ∧ i ≤ ys''.length ∧ n = ys''.length + 1 - i) ?_
              (ys''.length + 1) ⟨_, _, m, 0, sp, tsp, rfl, Fp, hit₀, hlp, I.got, hsp, hep, by simpa using hel, Nat.zero_le _, rfl⟩
            have hshort := I.short
            clear I hl hit₀ hlp Fp hsp hep hel hgt hLlt hℓlt
            rintro n s' ⟨h, tk, m, i, sp, tsp, rfl, F, hit, hl, hgot, hsp, hep, hel, hile, rfl⟩
            by_cases hi : i < ys''.length
            · have hyi : ys''.drop i = ys''.getD i Str.empty :: ys''.drop (i + 1) := by
                rw [List.drop_eq_getElem_cons hi, List.getD_eq_getElem?_getD, List.getElem?_eq_getElem hi]; rfl
              obtain ⟨t, ht⟩ := StrsAre.get hv hi
              have hys : (ys''.getD i Str.empty).length ≤ 1000 := hshort _ (by
                rw [List.getD_eq_getElem?_getD, List.getElem?_eq_getElem hi]; exact List.getElem_mem hi)
              generalize ys''.getD i Str.empty = y at hyi ht hys
              rw [hyi, ellTail] at hel
              refine wpAny_pyNext_list_item hit hl (x := .str y t) (by simpa using ht) ?_
              intro h₁ hit₁ hs₁
              have F₁ := Fr.same F hs₁ hITL hITs
              have hl₁ := hl.extBut hs₁.extBut hITℓ
              dsimp only at F₁ hl₁ hit₁ ⊢
              refine wpAny_assign_Name (stS F₁ ?_)
              intro h₂ F₂ hs₂
              have hit₂ := hit₁.extBut hs₂.extBut hITL
              have hl₂ := hl₁.extBut hs₂.extBut hℓL
              dsimp only at F₂ hl₂ hit₂ ⊢
              refine wpAny_execs_cons (wpAny_Assign_Name (MethodCall_ (ld F₂ hgot (GM.find (callWith_method1 (args_cons (ld F₂ (by rfl) (args_cons (ld F₂ hsp (args_cons (ld F₂ hep (args_nil ?_))))))))))))
              dsimp only [List.cons_append, List.nil_append]
              refine call_find4 (stS F₂ ?_)
              intro h₃ F₃ hs₃
              have hit₃ := hit₂.extBut hs₃.extBut hITL
              have hl₃ := hl₂.extBut hs₃.extBut hℓL
              dsimp only at F₃ hl₃ hit₃ ⊢
              refine wpAny_execs_cons (wpAny_If (wpAny_isTrue_Compare1 (ld F₃ (by rfl) (wpAny_Constant_int (lt_int (wpAny_truthy_bool ?_))))))
              split
              · rename_i hneg
                refine wpAny_execs_cons (wpAny_Return_some (Constant_bool ?_))
                rw [if_pos (by simpa using hneg)] at hel
                exact hQ' _ _ hel ⟨_, _, rfl, F₃.keep⟩
              · rename_i hneg
                rw [if_neg (by simpa using hneg)] at hel
                refine wpAny_execs_nil ?_
                dsimp only
                refine wpAny_execs_cons (wpAny_AugAssign_Name (ldn F₃ (by rfl) (Call_ (nameB (C.keeps F₃.keep) (by rfl) boot_len (by decide) (callWith_builtin1 (args_cons (ld F₃ (by rfl) (args_nil (SBL.len (by omega) (iadd_int ?_))))))))))
                refine stS F₃ ?_
                intro h₄ F₄ hs₄
                have hit₄ := hit₃.extBut hs₄.extBut hITL
                have hl₄ := hl₃.extBut hs₄.extBut hℓL
                dsimp only at F₄ hl₄ hit₄ ⊢
                refine wpAny_execs_nil ?_
                exact ⟨_, (by omega), _, _, _, i + 1, _, _, rfl, F₄, hit₄, hl₄, hgot, by rfl, hep, hel, hi, rfl⟩
            · have hnil : ys''.drop i = [] := List.drop_of_length_le (by omega)
              refine wpAny_pyNext_list_end (hh' _) hit hl (by simp; omega) ?_
              intro h₁ hx₁
              have F₁ := Fr.ext F hx₁ hITL hITs
              refine wpAny_execs_nil ?_
              dsimp only
              refine wpAny_execs_cons (wpAny_Return_some (Constant_bool ?_))
              rw [hnil, ellTail] at hel
              exact hQ' _ _ hel ⟨_, _, rfl, F₁.keep⟩
        · have := hQ s' hk
          rw [hel] at this
          exact this
    · have := hQ s' hk
      rw [hel] at this
      exact this
end Mine

namespace Mine
open PySem.Builtin PySem.Builtin.Str PySem.Calls

theorem call_fnC {prog : Program} {w : World} {A : Around} {E : Value → Shared → Prop} {s : Shared} {Q : Value → Shared → Prop} {fd : FuncData} {body : List Stmt} {oc : Value} {od : Option Addr} {osl : Array (Option Value)} {f : Addr} {args : List Value} {binds : List (Str × Value)}
    (C : Cx w s.heap) (hroom : A.depth < recursionLimit)
    (ho : (KK w).lookup f = some ⟨oc, od, .func fd, osl⟩) (hcd : codeIn (KK w) fd.code fd.qualname = true) (hbody : fd.body = .stmts body)
    (hbind : bindArgs fd ⟨args, []⟩ = pure binds) (hclo : fd.closure = [])
    (hkind : ∀ n, ∀ x ∈ binds, fd.scope.names.lookup x.1 = some .local ∨ (fd.scope.names.lookup x.1 = some .cell ∧ ((cellsFrom n fd.scope.names []).lookup x.1).isSome = true))
    (hco : fd.scope.isCoroutine = false) (hgen : fd.scope.isGenerator = false) (hk : fd.scope.kind = .function)
    (h : ∀ L s₁, InCallC s L (bindL (callEnvC fd L f).kindOf binds fun _ => none) (cellsFrom (L + 1) fd.scope.names []) (bindC (callEnvC fd L f).kindOf binds fun _ => none) s₁ → s.heap.objs.size ≤ L → Cx w s₁.heap →
      wpAny (model prog w) (A.deeper (callEnvC fd L f)) (execs body (callEnvC fd L f)) (fun fl s' => Q (match fl with | .ret v => v | _ => .none) s') (fun _ _ => False) s₁) :
    wpAny (model prog w) A (call (.ref f) args) Q E s := by
  have C' := C
  obtain ⟨X, p, l, mg, mb, T⟩ := C'
  refine wpAny_call (codeAny_call_cells hroom (X _ _ ho) rfl T.nolimit (codeRec_of X hcd) hbody hbind hclo (hkind _) (fun s₁ x => ?_) hco hgen hk)
  exact wpAny_mono (h _ s₁ x (Nat.le_refl _) (C.keeps x.toInCall.keep)) (fun _ _ q => q) (fun _ _ q => q.elim)

def RowIs (lo : Nat) (h : Heap) (v : Value) (bs : List Bool) : Prop := ∃ a, lo ≤ a ∧ v = .ref a ∧ h.PlainList a (bs.map Value.bool).toArray
def TabIs (lo : Nat) (h : Heap) (v : Value) (T : List (List Bool)) : Prop :=
  ∃ a, ∃ vs : List Value, lo ≤ a ∧ v = .ref a ∧ h.PlainList a vs.toArray ∧ vs.length = T.length ∧ ∀ i y, vs[i]? = some y → RowIs lo h y (T.getD i [])
theorem RowIs.up {lo : Nat} {h h' : Heap} {v : Value} {bs : List Bool} (x : RowIs lo h v bs) (k : ∀ b o, lo ≤ b → h.get? b = some o → h'.get? b = some o) : RowIs lo h' v bs :=
  let ⟨a, h1, h2, h3⟩ := x; ⟨a, h1, h2, h3.at fun o e => k a o h1 e⟩
theorem RowIs.down {lo lo' : Nat} {h : Heap} {v : Value} {bs : List Bool} (x : RowIs lo h v bs) (k : lo' ≤ lo) : RowIs lo' h v bs :=
  let ⟨a, h1, h2, h3⟩ := x; ⟨a, Nat.le_trans k h1, h2, h3⟩
theorem TabIs.up {lo : Nat} {h h' : Heap} {v : Value} {T : List (List Bool)} (x : TabIs lo h v T) (k : ∀ b o, lo ≤ b → h.get? b = some o → h'.get? b = some o) : TabIs lo h' v T :=
  let ⟨a, vs, h1, h2, h3, h4, h5⟩ := x; ⟨a, vs, h1, h2, h3.at fun o e => k a o h1 e, h4, fun i y hy => (h5 i y hy).up k⟩
theorem TabIs.down {lo lo' : Nat} {h : Heap} {v : Value} {T : List (List Bool)} (x : TabIs lo h v T) (k : lo' ≤ lo) : TabIs lo' h v T :=
  let ⟨a, vs, h1, h2, h3, h4, h5⟩ := x; ⟨a, vs, Nat.le_trans k h1, h2, h3, h4, fun i y hy => (h5 i y hy).down k⟩

/-- an item told by a bool of its place -/
theorem stable_bool (f : Nat → Bool) : Stable (fun i _ _ y => y = Value.bool (f i)) := ⟨fun _ _ _ _ _ e _ => e, fun _ _ _ _ _ _ e => e⟩
theorem stable_row (f : Nat → List Bool) : Stable (fun i lo h y => RowIs lo h y (f i)) := ⟨fun _ _ _ _ _ e k => e.up k, fun _ _ _ _ _ k e => e.down k⟩
theorem stable_tab (f : Nat → List (List Bool)) : Stable (fun i lo h y => TabIs lo h y (f i)) := ⟨fun _ _ _ _ _ e k => e.up k, fun _ _ _ _ _ k e => e.down k⟩

theorem bools_of {ys : List Value} {n : Nat} {f : Nat → Bool} (hl : ys.length = n) (h : ∀ i y, ys[i]? = some y → y = Value.bool (f i)) : ys = ((List.range n).map f).map Value.bool := by
  apply List.ext_getElem?
  intro i
  by_cases hi : i < n
  · have hi' : i < ys.length := by omega
    have e := h i ys[i] (List.getElem?_eq_getElem hi')
    rw [List.getElem?_eq_getElem hi', e]
    simp [hi]
  · rw [List.getElem?_eq_none (by omega), List.getElem?_eq_none (by simp; omega)]

def toldT (pattern text : Str) : List (List Bool) :=
  (List.range (text.length + 1)).map fun (i : Nat) => (List.range (text.length + 1)).map fun (j : Nat) => decide (i ≤ j) && ellMatch pattern (Txt.slice text (some (i : Int)) (some (j : Int)))

theorem NameIs.cell {env : Env} {h : Heap} {x : Str} {v : Value} {c : Addr} (N : NameIs env h x v) (hk : env.kindOf x = some .cell) (hc : env.cells.lookup x = some c) : h.IsCell c (some v) := by
  rcases N with ⟨a, _⟩ | ⟨_, c', b, d⟩
  · rw [hk] at a; cases a
  · rw [hc] at b; cases b; exact d
theorem kept_grow (h₀ : Heap) : KeptH (Grow h₀) := fun _ _ k b o e => Heap.get?_push_of_some _ (k b o e)
theorem grow_refl (h : Heap) : Grow h h := fun _ _ e => e
theorem grow_trans {h h' h'' : Heap} (a : Grow h h') (b : Grow h' h'') : Grow h h'' := fun x o e => b x o (a x o e)
theorem grow_push (h : Heap) (o : Obj) : Grow h (h.push o) := fun _ _ e => Heap.get?_push_of_some _ e
theorem slice_ss {prog : Program} {w : World} {A : Around} {E : Value → Shared → Prop} {s : Shared} {value slice : Expr} {x : Str} {t : Tok} {Q : Value → Shared → Prop} {i j : Int} {ui uj : Tok} (hsz : x.length ≤ 900)
    (h : ∀ h' t' k, Grow s.heap h' → Q (.str (Txt.slice x (some i) (some j)) t') { s with heap := h', toks := k })
    (hs : subscripted slice false (.str x t) (.ref s.heap.objs.size) = operate [.ref s.heap.objs.size, .str x t] (getItem (.str x t) (.ref s.heap.objs.size)) := by with_unfolding_all rfl)
    (ht : ∀ r, letTemporaryGo value (.str x t) r = pure () := by intro _; with_unfolding_all rfl) :
    wpAny (model prog w) A (subscriptTail value slice (.str x t) (.ref s.heap.objs.size)) Q E { s with heap := s.heap.push { cls := .type "slice", data := .fields #[.int i ui, .int j uj, .none] } } :=
  tail_of_ItemOn (SBH.sliceItem_ss (kept_grow s.heap) (grow_refl _) h (by rw [sizeLine_eq]; omega)) hs ht
theorem range_n (n : Nat) : Builtin.Range.rangeSize 0 ((n : Nat) : Int) 1 = ((n : Nat) : Int) := by
  rw [rangeSize_one]; split <;> omega

set_option maxHeartbeats 8000000 in
theorem told_spec {prog : Program} {w : World} {A : Around} {E : Value → Shared → Prop} {s : Shared}
  (C : Cx w s.heap) (hroom : A.depth + 1 < recursionLimit) (hh : A.handled = none) {pattern text : Str} {t1 t2 : Tok} (hw : pattern.length ≤ 900) (hg : text.length ≤ 900) {Q : Value → Shared → Prop}
  (hQ : ∀ v s', Keeps s s' → TabIs s.heap.objs.size s'.heap v (toldT pattern text) → Q v s') :
   wpAny (model prog w) A (call (.ref 42) [.str pattern t1, .str text t2]) Q E s := by
  refine call_fnC C (by omega) (by rfl) (by rfl) (by rfl) (by rfl) (by rfl) ?_ (by rfl) (by rfl) (by rfl) ?_
  · exact kindsX (by rfl)
  intro L s₁ I hL C₁
  have hpat : s₁.heap.IsCell (L + 1) (some (.str pattern t1)) := I.cell "pattern" (L + 1) rfl
  have htxt : s₁.heap.IsCell (L + 2) (some (.str text t2)) := I.cell "text" (L + 2) rfl
  refine wpAny_execs_cons (wpAny_Assign_Name (Call_ (nameB C₁ (by rfl) boot_range (by decide) (callWith_type1 (args_cons (wpAny_BinOp ?_))))))
  refine Call_ (nameB C₁ (by rfl) boot_len (by decide) (callWith_builtin1 (args_cons (NameIs.ev (.inr ⟨.inl rfl, _, rfl, htxt⟩) ?_))))
  obtain ⟨h₁, tk₁, rfl, hk₁⟩ := I.done
  dsimp only at hpat htxt C₁
  have hpl0 : h₁.IsCell (L + 3) none := I.cell "places" (L + 3) rfl
  refine args_nil (SBL.len (by omega) (wpAny_Constant_int (add_int (args_nil (call_range_1 ?_)))))
  dsimp only
  refine wpAny_storeName_cell (by rfl) (by rfl) (by rfl) (hpl0.keeps (grow_push _ _)) fun h₂ hpl hs₂ => ?_
  dsimp only at hs₂ ⊢
  have hlt : L + 3 < h₁.objs.size := hpl0.lt
  have ext := hs₂.extBut
  have hpat₂ : h₂.IsCell (L + 1) (some (.str pattern t1)) := (hpat.keeps (grow_push _ _)).sameBut hs₂ (by simp)
  have htxt₂ : h₂.IsCell (L + 2) (some (.str text t2)) := (htxt.keeps (grow_push _ _)).sameBut hs₂ (by simp)
  have hR : IsRange h₂ h₁.objs.size 0 ((text.length + 1 : Nat) : Int) 1 _ _ _ := ext _ _ (Nat.ne_of_gt hlt) (by simpa using Heap.get?_push_size h₁ rfl)
  have hG₂ : Grow s.heap h₂ := fun b o e => ext _ _ (Nat.ne_of_lt (Nat.lt_of_lt_of_le (Heap.lt_size e) (Nat.le_trans hL (Nat.le_add_right _ _)))) (grow_push _ _ _ _ (hk₁ b o e))
  have C₂ : Cx w h₂ := C.keeps hG₂
  have hlo : s.heap.objs.size ≤ h₂.objs.size := Nat.le_of_lt (Nat.lt_of_le_of_lt (Nat.le_trans hL (Nat.le_add_right L 1)) hpat₂.lt)
  generalize h₁.objs.size = R at hpl hR
  clear hpl0 hs₂ ext C₁ hpat htxt I hlt hk₁
  refine wpAny_execs_cons (wpAny_Return_some ?_)
  refine comp_src true hh (by rfl) (fun _ => by rfl) (fun _ => by rfl) (by rfl) (by decide) (by rfl) (stable_row fun i => (List.range (text.length + 1)).map fun j => decide (i ≤ j) && ellMatch pattern (Txt.slice text (some (i : Int)) (some (j : Int)))) (fun _ => by rfl) ?_
  refine NameIs.ev (.inr ⟨.inl rfl, _, rfl, hpl⟩) ?_
  refine ⟨_, _, Src.range hR (small_one (by omega) (by omega) (by omega) (by omega)) (range_n _), by omega, ?_, ?_⟩
  · rintro C' i v s₃ E' hi ⟨ti, rfl⟩ hN hg₃
    dsimp only at hg₃
    have hi₃ : s₃.heap.IsCell (C' + 1) _ := hN.cell (by rfl) (by rfl)
    refine comp_src false hh (by rfl) (fun _ => by rfl) (fun _ => by rfl) (by rfl) (by decide) (by rfl) (stable_bool fun j => decide (i ≤ j) && ellMatch pattern (Txt.slice text (some (i : Int)) (some (j : Int)))) (fun _ => by rfl) ?_
    refine NameIs.ev (.inr ⟨.inl rfl, _, rfl, hpl.keeps hg₃⟩) ?_
    refine ⟨_, _, Src.range (hg₃ _ _ hR) (small_one (by omega) (by omega) (by omega) (by omega)) (range_n _), by omega, ?_, ?_⟩
    · rintro C'' j v s₄ E'' hj ⟨tj, rfl⟩ hNj hg₄
      have hi₄ := hi₃.keeps hg₄
      have C₄ : Cx w s₄.heap := (C₂.keeps hg₃).keeps hg₄
      refine BoolOp_and (wpAny_Compare1 (NameIs.ev (.inr ⟨.inl rfl, _, rfl, hi₄⟩) (NameIs.ev hNj (le_int (wpAny_truthy_bool ?_)))))
      rw [Int.zero_add, Int.zero_add]
      split
      · rename_i hij
        have hij' : i ≤ j := by simpa using hij
        refine BoolOp_one (Call_ (nameK C₄ (by rfl) (callWith_K C₄.1 (by rfl) (args_cons (NameIs.ev (.inr ⟨.inl rfl, _, rfl, (hpat₂.keeps hg₃).keeps hg₄⟩) (args_cons (Subscript_ (NameIs.ev (.inr ⟨.inl rfl, _, rfl, (htxt₂.keeps hg₃).keeps hg₄⟩) ?_))))))))
        refine wpAny_Slice (evalPart_some_step (NameIs.ev (.inr ⟨.inl rfl, _, rfl, hi₄⟩) (evalPart_some_step (NameIs.ev hNj (evalPart_none_step (slice_ss hg ?_))))))
        intro h₅ t₅ k₅ hg₅
        refine args_nil ⟨C₄.1.keeps hg₅, ?_⟩
        dsimp only [List.nil_append]
        rw [Int.zero_add, Int.zero_add]
        refine ell_spec (by exact C₄.keeps hg₅) (by exact hroom) (by exact hh) (by omega) (by exact Nat.le_trans (Txt.slice_le text _ _) (by omega)) ?_
        rintro s₆ ⟨h₆, tk₆, rfl, hk₆⟩
        refine ⟨?_, h₆, tk₆, rfl, grow_trans hg₅ hk₆⟩
        simp [hij']
      · rename_i hij
        have hij' : ¬ i ≤ j := by simpa using hij
        exact ⟨by simp [hij'], _, _, rfl, grow_refl _⟩
    · intro D h' tk ys hD hl hlen hGs hk
      refine ⟨⟨D, hD, rfl, ?_⟩, h', tk, rfl, hk⟩
      rw [← bools_of hlen hGs]
      exact hl
  · intro D h' tk ys hD hl hlen hGs hk
    refine hQ _ _ ⟨_, _, rfl, grow_trans hG₂ hk⟩ ⟨D, ys, Nat.le_trans hlo hD, rfl, hl, by simp [hlen, toldT], fun i y hy => ?_⟩
    have := (hGs i y hy).down hlo
    have hi : i < text.length + 1 := by
      have := List.getElem?_eq_some_iff.mp hy; obtain ⟨h1, _⟩ := this; omega
    unfold toldT
    rw [List.getD_eq_getElem?_getD]
    simpa [hi] using this
end Mine

namespace Mine
open PySem.Builtin PySem.Builtin.Str PySem.Calls

def plainT (part text : Str) : List (List Bool) :=
  (List.range (text.length + 1)).map fun (i : Nat) => (List.range (text.length + 1)).map fun (j : Nat) => decide (i ≤ j) && (part == Str.ofString "..." || part == Txt.slice text (some (i : Int)) (some (j : Int)))

set_option maxHeartbeats 8000000 in
theorem plain_spec {prog : Program} {w : World} {A : Around} {E : Value → Shared → Prop} {s : Shared}
  (C : Cx w s.heap) (hroom : A.depth < recursionLimit) (hh : A.handled = none) {part text : Str} {t1 t2 : Tok} (hg : text.length ≤ 900) {Q : Value → Shared → Prop}
  (hQ : ∀ v s', Keeps s s' → TabIs s.heap.objs.size s'.heap v (plainT part text) → Q v s') :
   wpAny (model prog w) A (call (.ref 47) [.str part t1, .str text t2]) Q E s := by
  refine call_fnC C hroom (by rfl) (by rfl) (by rfl) (by rfl) (by rfl) ?_ (by rfl) (by rfl) (by rfl) ?_
  · exact kindsX (by rfl)
  intro L s₁ I hL C₁
  have hpat : s₁.heap.IsCell (L + 1) (some (.str part t1)) := I.cell "part" (L + 1) rfl
  have htxt : s₁.heap.IsCell (L + 2) (some (.str text t2)) := I.cell "text" (L + 2) rfl
  refine wpAny_execs_cons (wpAny_Assign_Name (Call_ (nameB C₁ (by rfl) boot_range (by decide) (callWith_type1 (args_cons (wpAny_BinOp ?_))))))
  refine Call_ (nameB C₁ (by rfl) boot_len (by decide) (callWith_builtin1 (args_cons (NameIs.ev (.inr ⟨.inl rfl, _, rfl, htxt⟩) ?_))))
  obtain ⟨h₁, tk₁, rfl, hk₁⟩ := I.done
  dsimp only at hpat htxt C₁
  have hpl0 : h₁.IsCell (L + 3) none := I.cell "places" (L + 3) rfl
  refine args_nil (SBL.len (by omega) (wpAny_Constant_int (add_int (args_nil (call_range_1 ?_)))))
  dsimp only
  refine wpAny_storeName_cell (by rfl) (by rfl) (by rfl) (hpl0.keeps (grow_push _ _)) fun h₂ hpl hs₂ => ?_
  dsimp only at hs₂ ⊢
  have hlt : L + 3 < h₁.objs.size := hpl0.lt
  have ext := hs₂.extBut
  have hpat₂ : h₂.IsCell (L + 1) (some (.str part t1)) := (hpat.keeps (grow_push _ _)).sameBut hs₂ (by simp)
  have htxt₂ : h₂.IsCell (L + 2) (some (.str text t2)) := (htxt.keeps (grow_push _ _)).sameBut hs₂ (by simp)
  have hR : IsRange h₂ h₁.objs.size 0 ((text.length + 1 : Nat) : Int) 1 _ _ _ := ext _ _ (Nat.ne_of_gt hlt) (by simpa using Heap.get?_push_size h₁ rfl)
  have hG₂ : Grow s.heap h₂ := fun b o e => ext _ _ (Nat.ne_of_lt (Nat.lt_of_lt_of_le (Heap.lt_size e) (Nat.le_trans hL (Nat.le_add_right _ _)))) (grow_push _ _ _ _ (hk₁ b o e))
  have C₂ : Cx w h₂ := C.keeps hG₂
  have hlo : s.heap.objs.size ≤ h₂.objs.size := Nat.le_of_lt (Nat.lt_of_le_of_lt (Nat.le_trans hL (Nat.le_add_right L 1)) hpat₂.lt)
  generalize h₁.objs.size = R at hpl hR
  clear hpl0 hs₂ ext C₁ hpat htxt I hlt hk₁
  refine wpAny_execs_cons (wpAny_Return_some ?_)
  refine comp_src true hh (by rfl) (fun _ => by rfl) (fun _ => by rfl) (by rfl) (by decide) (by rfl) (stable_row fun i => (List.range (text.length + 1)).map fun j => decide (i ≤ j) && (part == Str.ofString "..." || part == Txt.slice text (some (i : Int)) (some (j : Int)))) (fun _ => by rfl) ?_
  refine NameIs.ev (.inr ⟨.inl rfl, _, rfl, hpl⟩) ?_
  refine ⟨_, _, Src.range hR (small_one (by omega) (by omega) (by omega) (by omega)) (range_n _), by omega, ?_, ?_⟩
  · rintro C' i v s₃ E' hi ⟨ti, rfl⟩ hN hg₃
    dsimp only at hg₃
    have hi₃ : s₃.heap.IsCell (C' + 1) _ := hN.cell (by rfl) (by rfl)
    refine comp_src false hh (by rfl) (fun _ => by rfl) (fun _ => by rfl) (by rfl) (by decide) (by rfl) (stable_bool fun j => decide (i ≤ j) && (part == Str.ofString "..." || part == Txt.slice text (some (i : Int)) (some (j : Int)))) (fun _ => by rfl) ?_
    refine NameIs.ev (.inr ⟨.inl rfl, _, rfl, hpl.keeps hg₃⟩) ?_
    refine ⟨_, _, Src.range (hg₃ _ _ hR) (small_one (by omega) (by omega) (by omega) (by omega)) (range_n _), by omega, ?_, ?_⟩
    · rintro C'' j v s₄ E'' hj ⟨tj, rfl⟩ hNj hg₄
      have hi₄ := hi₃.keeps hg₄
      have C₄ : Cx w s₄.heap := (C₂.keeps hg₃).keeps hg₄
      refine BoolOp_and (wpAny_Compare1 (NameIs.ev (.inr ⟨.inl rfl, _, rfl, hi₄⟩) (NameIs.ev hNj (le_int (wpAny_truthy_bool ?_)))))
      rw [Int.zero_add, Int.zero_add]
      split
      · rename_i hij
        have hij' : i ≤ j := by simpa using hij
        refine BoolOp_one (BoolOp_or (wpAny_Compare1 (NameIs.ev (.inr ⟨.inl rfl, _, rfl, (hpat₂.keeps hg₃).keeps hg₄⟩) (Constant_str (eq_str (wpAny_truthy_bool ?_))))))
        split
        · rename_i hdots
          refine ⟨?_, _, _, rfl, grow_refl _⟩
          rw [hdots]
          simp [hij']
        · rename_i hdots
          refine BoolOp_one (wpAny_Compare1 (NameIs.ev (.inr ⟨.inl rfl, _, rfl, (hpat₂.keeps hg₃).keeps hg₄⟩) (Subscript_ (NameIs.ev (.inr ⟨.inl rfl, _, rfl, (htxt₂.keeps hg₃).keeps hg₄⟩) ?_))))
          refine wpAny_Slice (evalPart_some_step (NameIs.ev (.inr ⟨.inl rfl, _, rfl, hi₄⟩) (evalPart_some_step (NameIs.ev hNj (evalPart_none_step (slice_ss hg ?_))))))
          intro h₅ t₅ k₅ hg₅
          refine eq_str ?_
          rw [Int.zero_add, Int.zero_add]
          refine ⟨?_, _, _, rfl, hg₅⟩
          simp only [Bool.not_eq_true] at hdots
          rw [hdots]
          simp [hij']
      · rename_i hij
        have hij' : ¬ i ≤ j := by simpa using hij
        exact ⟨by simp [hij'], _, _, rfl, grow_refl _⟩
    · intro D h' tk ys hD hl hlen hGs hk
      refine ⟨⟨D, hD, rfl, ?_⟩, h', tk, rfl, hk⟩
      rw [← bools_of hlen hGs]
      exact hl
  · intro D h' tk ys hD hl hlen hGs hk
    refine hQ _ _ ⟨_, _, rfl, grow_trans hG₂ hk⟩ ⟨D, ys, Nat.le_trans hlo hD, rfl, hl, by simp [hlen, plainT], fun i y hy => ?_⟩
    have := (hGs i y hy).down hlo
    have hi : i < text.length + 1 := by
      have := List.getElem?_eq_some_iff.mp hy; obtain ⟨h1, _⟩ := this; omega
    unfold plainT
    rw [List.getD_eq_getElem?_getD]
    simpa [hi] using this
end Mine

namespace Mine
open PySem.Builtin PySem.Builtin.Str PySem.Calls

/-- the cell of a table -/
def cellT (T : List (List Bool)) (i k : Nat) : Bool := (T.getD i []).getD k false
/-- n rows of n cells -/
def Square (n : Nat) (T : List (List Bool)) : Prop := T.length = n ∧ ∀ i, i < n → (T.getD i []).length = n
def joinT (n : Nat) (T U : List (List Bool)) : List (List Bool) :=
  (List.range n).map fun (i : Nat) => (List.range n).map fun (j : Nat) => (List.range (j + 1 - i)).any fun k => cellT T i (i + k) && cellT U (i + k) j

theorem TabIs.grow {lo : Nat} {h h' : Heap} {v : Value} {T : List (List Bool)} (x : TabIs lo h v T) (k : Grow h h') : TabIs lo h' v T := x.up fun b o _ e => k b o e

theorem tab_cell {prog : Program} {w : World} {A : Around} {E : Value → Shared → Prop} {s : Shared} {env : Env} {x y z : Str} {p1 p2 p3 p4 p5 : Pos} {vl : Value} {i k lo n : Nat} {ti tk : Tok} {T : List (List Bool)} {Q : Value → Shared → Prop}
    (N1 : NameIs env s.heap x vl) (N2 : NameIs env s.heap y (.int (i : Int) ti)) (N3 : NameIs env s.heap z (.int (k : Int) tk)) (hT : TabIs lo s.heap vl T) (hS : Square n T) (hn : n ≤ 1000) (hi : i < n) (hk : k < n)
    (h : Q (.bool (cellT T i k)) s) (hkk : env.scope.kind = .function := by rfl)
    (hx : (x == ("__debug__" : Str)) = false := by decide) (hx' : (x == ("__classdict__" : Str)) = false := by decide)
    (hy : (y == ("__debug__" : Str)) = false := by decide) (hy' : (y == ("__classdict__" : Str)) = false := by decide)
    (hz : (z == ("__debug__" : Str)) = false := by decide) (hz' : (z == ("__classdict__" : Str)) = false := by decide) :
    wpAny (model prog w) A (eval (.Subscript (.Subscript (.Name x p1) (.Name y p2) p3) (.Name z p4) p5) env) Q E s := by
  obtain ⟨a, vs, ha, rfl, hl, hlen, hrows⟩ := hT
  have hi' : i < vs.length := by rw [hlen, hS.1]; exact hi
  obtain ⟨b, hb, hv, hlb⟩ := hrows i vs[i] (List.getElem?_eq_getElem hi')
  refine Subscript_ (Subscript_ (NameIs.ev N1 (NameIs.ev N2 (item_list hl.isList (by omega) (by omega) (x := .ref b) ?_ (NameIs.ev N3 ?_ hkk hz hz')) hkk hy hy') hkk hx hx'))
  · rw [← hv]; simp [hi']
  · refine tail_any (ops := [.ref b, .int k tk]) hlb.isList.typeIs slot_list_getitem.lookup (wpAny_getItem_list hlb.isList (by omega) (by omega) (x := .bool (cellT T i k)) ?_ h) (by with_unfolding_all rfl)
    have hk' : k < (T.getD i []).length := by rw [hS.2 i hi]; exact hk
    unfold cellT
    rw [List.getD_eq_getElem?_getD (l := T.getD i []), List.getElem?_eq_getElem hk']
    simp [hk']

theorem eqAt_true {A : Around} {s : Shared} (b : Bool) : SeqAt.EqAt A s (.bool b) (.bool true) b := by
  have := SeqAt.EqAt.bool_bool (A := A) (s := s) b true
  rw [show (b == true) = b by cases b <;> rfl] at this
  exact this
def boolOf : Value → Bool
  | .bool b => b
  | _ => false

set_option maxHeartbeats 8000000 in
theorem joined_spec {prog : Program} {w : World} {A : Around} {E : Value → Shared → Prop} {s : Shared}
  (C : Cx w s.heap) (hroom : A.depth < recursionLimit) (hh : A.handled = none) {vl vr : Value} {lo lo' n : Nat} {T U : List (List Bool)} (hT : TabIs lo s.heap vl T) (hU : TabIs lo' s.heap vr U) (sT : Square n T) (sU : Square n U) (hn : n ≤ 900) {Q : Value → Shared → Prop}
  (hQ : ∀ v s', Keeps s s' → TabIs s.heap.objs.size s'.heap v (joinT n T U) → Q v s') :
   wpAny (model prog w) A (call (.ref 52) [vl, vr]) Q E s := by
  refine call_fnC C hroom (by rfl) (by rfl) (by rfl) (by rfl) (by rfl) ?_ (by rfl) (by rfl) (by rfl) ?_
  · exact kindsX (by rfl)
  intro L s₁ I hL C₁
  have hpat : s₁.heap.IsCell (L + 1) (some vl) := I.cell "left" (L + 1) rfl
  have htxt : s₁.heap.IsCell (L + 2) (some vr) := I.cell "right" (L + 2) rfl
  obtain ⟨h₁, tk₁, rfl, hk₁⟩ := I.done
  dsimp only at hpat htxt C₁
  have hpl0 : h₁.IsCell (L + 3) none := I.cell "places" (L + 3) rfl
  have hT₁ := hT.grow hk₁
  obtain ⟨a, vs, ha, rfl, hl, hlen, hrows⟩ := id hT₁
  refine wpAny_execs_cons (wpAny_Assign_Name (Call_ (nameB C₁ (by rfl) boot_range (by decide) (callWith_type1 (args_cons ?_)))))
  refine Call_ (nameB C₁ (by rfl) boot_len (by decide) (callWith_builtin1 (args_cons (NameIs.ev (.inr ⟨.inl rfl, _, rfl, hpat⟩) ?_))))
  have hvn : vs.toArray.size = n := by rw [List.size_toArray, hlen, sT.1]
  refine args_nil (len_list hl.isList (by rw [hvn]; omega) (args_nil (call_range_1 ?_)))
  dsimp only
  refine wpAny_storeName_cell (by rfl) (by rfl) (by rfl) (hpl0.keeps (grow_push _ _)) fun h₂ hpl hs₂ => ?_
  dsimp only at hs₂ ⊢
  have hlt : L + 3 < h₁.objs.size := hpl0.lt
  have ext := hs₂.extBut
  have hpat₂ : h₂.IsCell (L + 1) (some (.ref a)) := (hpat.keeps (grow_push _ _)).sameBut hs₂ (by simp)
  have htxt₂ : h₂.IsCell (L + 2) (some vr) := (htxt.keeps (grow_push _ _)).sameBut hs₂ (by simp)
  have hR : IsRange h₂ h₁.objs.size 0 ((n : Nat) : Int) 1 _ _ _ := ext _ _ (Nat.ne_of_gt hlt) (by rw [← hvn]; exact Heap.get?_push_size h₁ rfl)
  have hG₂ : Grow s.heap h₂ := fun b o e => ext _ _ (Nat.ne_of_lt (Nat.lt_of_lt_of_le (Heap.lt_size e) (Nat.le_trans hL (Nat.le_add_right _ _)))) (grow_push _ _ _ _ (hk₁ b o e))
  have C₂ : Cx w h₂ := C.keeps hG₂
  have hlo : s.heap.objs.size ≤ h₂.objs.size := Nat.le_of_lt (Nat.lt_of_le_of_lt (Nat.le_trans hL (Nat.le_add_right L 1)) hpat₂.lt)
  have hT₂ := hT.grow hG₂
  have hU₂ := hU.grow hG₂
  clear hl hlen hrows
  generalize h₁.objs.size = R at hpl hR
  clear hpl0 hs₂ ext C₁ hpat htxt I hlt hk₁ hT₁ hvn
  refine wpAny_execs_cons (wpAny_Return_some ?_)
  refine comp_src true hh (by rfl) (fun _ => by rfl) (fun _ => by rfl) (by rfl) (by decide) (by rfl) (stable_row fun i => (List.range n).map fun (j : Nat) => (List.range (j + 1 - i)).any fun k => cellT T i (i + k) && cellT U (i + k) j) (fun _ => by rfl) ?_
  refine NameIs.ev (.inr ⟨.inl rfl, _, rfl, hpl⟩) ?_
  refine ⟨_, _, Src.range hR (small_one (by omega) (by omega) (by omega) (by omega)) (range_n _), by omega, ?_, ?_⟩
  · rintro C' i v s₃ E' hi ⟨ti, rfl⟩ hN hg₃
    dsimp only at hg₃
    have hi₃ : s₃.heap.IsCell (C' + 1) _ := hN.cell (by rfl) (by rfl)
    rw [Int.zero_add] at hi₃
    refine comp_src true hh (by rfl) (fun _ => by rfl) (fun _ => by rfl) (by rfl) (by decide) (by rfl) (stable_bool fun j => (List.range (j + 1 - i)).any fun k => cellT T i (i + k) && cellT U (i + k) j) (fun _ => by rfl) ?_
    refine NameIs.ev (.inr ⟨.inl rfl, _, rfl, hpl.keeps hg₃⟩) ?_
    refine ⟨_, _, Src.range (hg₃ _ _ hR) (small_one (by omega) (by omega) (by omega) (by omega)) (range_n _), by omega, ?_, ?_⟩
    · rintro C'' j v s₄ E'' hj ⟨tj, rfl⟩ hNj hg₄
      have hi₄ := hi₃.keeps hg₄
      have hj₄ : s₄.heap.IsCell (C'' + 1) _ := hNj.cell (by rfl) (by rfl)
      rw [Int.zero_add] at hj₄
      have C₄ : Cx w s₄.heap := (C₂.keeps hg₃).keeps hg₄
      have hg24 := grow_trans hg₃ hg₄
      refine wpAny_Compare1 (Constant_bool ?_)
      refine comp_src false hh (by rfl) (fun _ => by rfl) (fun _ => by rfl) (by rfl) (by decide) (by rfl) (stable_bool fun k => cellT T i (i + k) && cellT U (i + k) j) (fun _ => by rfl) ?_
      refine Call_ (nameB C₄ (by rfl) boot_range (by decide) (callWith_type1 (args_cons (NameIs.ev (.inr ⟨.inl rfl, _, rfl, hi₄⟩) (args_cons (wpAny_BinOp (NameIs.ev (.inr ⟨.inl rfl, _, rfl, hj₄⟩) ?_)))))))
      refine wpAny_Constant_int (add_int (args_nil (call_range_2 ?_)))
      dsimp only
      refine ⟨_, _, Src.range (n := j + 1 - i) (Heap.get?_push_size _ rfl) (small_one (by omega) (by omega) (by omega) (by omega)) (by rw [rangeSize_one]; split <;> omega), by omega, ?_, ?_⟩
      · rintro C3 k v s₅ E3 hk ⟨tk, rfl⟩ hNk hg₅
        have hg25 := grow_trans hg24 (grow_trans (grow_push _ _) hg₅)
        have hi₅ := hi₄.keeps (grow_trans (grow_push _ _) hg₅)
        have hj₅ := hj₄.keeps (grow_trans (grow_push _ _) hg₅)
        have e : ((i : Nat) : Int) + (k : Int) = ((i + k : Nat) : Int) := by simp
        rw [e] at hNk
        refine BoolOp_and (tab_cell (.inr ⟨.inl rfl, _, rfl, hpat₂.keeps hg25⟩) (.inr ⟨.inl rfl, _, rfl, hi₅⟩) hNk (hT₂.grow hg25) sT (by omega) hi (by omega) (wpAny_truthy_bool ?_))
        split
        · rename_i hb
          refine BoolOp_one (tab_cell (.inr ⟨.inl rfl, _, rfl, htxt₂.keeps hg25⟩) hNk (.inr ⟨.inl rfl, _, rfl, hj₅⟩) (hU₂.grow hg25) sU (by omega) (by omega) hj ?_)
          exact ⟨by rw [hb, Bool.true_and], _, _, rfl, grow_refl _⟩
        · rename_i hb
          exact ⟨by rw [Bool.not_eq_true] at hb; rw [hb, Bool.false_and], _, _, rfl, grow_refl _⟩
      · intro D h' tk ys hD hl hlen hGs hk
        have hy := bools_of hlen hGs
        subst hy
        refine SeqAt.in_listAt boolOf hl.isList ?_ ⟨?_, _, _, rfl, grow_trans (grow_push _ _) hk⟩
        · intro y hy
          simp only [List.mem_toArray, List.mem_map] at hy
          obtain ⟨b, _, rfl⟩ := hy
          exact eqAt_true b
        · congr 1
          rw [List.any_toArray, List.any_map, List.any_map]
          rfl
    · intro D h' tk ys hD hl hlen hGs hk
      refine ⟨⟨D, hD, rfl, ?_⟩, h', tk, rfl, hk⟩
      rw [← bools_of hlen hGs]
      exact hl
  · intro D h' tk ys hD hl hlen hGs hk
    refine hQ _ _ ⟨_, _, rfl, grow_trans hG₂ hk⟩ ⟨D, ys, Nat.le_trans hlo hD, rfl, hl, by simp [hlen, joinT], fun i y hy => ?_⟩
    have := (hGs i y hy).down hlo
    have hi : i < n := by
      have := List.getElem?_eq_some_iff.mp hy; obtain ⟨h1, _⟩ := this; omega
    unfold joinT
    rw [List.getD_eq_getElem?_getD]
    simpa [hi] using this
end Mine

namespace Mine
open PySem.Builtin PySem.Builtin.Str PySem.Calls

section
variable {prog : Program} {w : World} {A : Around} {E : Value → Shared → Prop} {s : Shared} {R : Result → Shared → Prop}

theorem compTurn_two0 (elt t0 i0 t1 i1 c : Expr) (scope : Scope) (pos : Pos) (it acc : Value) (env : Env) :
    compTurn (.ListComp elt [⟨t0, i0, [], 0⟩, ⟨t1, i1, [c], 0⟩] scope pos) 0 it acc env = (standAt i0.pos >>= fun _ => pyNext it >>= fun r => match r with
      | none => pure (.done .next)
      | some v => letOwnedTupleGo t0 it v >>= fun _ => assign t0 env v >>= fun _ =>
        (eval i1 env >>= fun x => standAt i1.pos >>= fun _ => foldedSetIterable i1 env x >>= fun x => holding [x] (pyIter x) >>= fun it' =>
          runOwn (.compStart (.ListComp elt [⟨t0, i0, [], 0⟩, ⟨t1, i1, [c], 0⟩] scope pos) 1 it' acc env) env >>= fun _ =>
          again (.compLoop (.ListComp elt [⟨t0, i0, [], 0⟩, ⟨t1, i1, [c], 0⟩] scope pos) 0 it acc env))) := by rfl
theorem compTurn_two1 (elt t0 i0 t1 i1 c : Expr) (scope : Scope) (pos : Pos) (it acc : Value) (env : Env) :
    compTurn (.ListComp elt [⟨t0, i0, [], 0⟩, ⟨t1, i1, [c], 0⟩] scope pos) 1 it acc env = (do
      standAt i1.pos
      match ← pyNext it with
      | none => pure (.done .next)
      | some v =>
        letOwnedTupleGo t1 it v
        assign t1 env v
        let mut ok := true
        for c in [c] do
          if ok then ok ← isTrue c env (eval c env)
        if ok then
          (do let _ ← call (.builtin "list.append") [acc, ← eval elt env])
        again (.compLoop (.ListComp elt [⟨t0, i0, [], 0⟩, ⟨t1, i1, [c], 0⟩] scope pos) 1 it acc env)) := by rfl

theorem compStart_two1 {elt t0 i0 t1 i1 c scope pos it acc env}
    (h0 : codeAny (model prog w) A (.compLoop (.ListComp elt [⟨t0, i0, [], 0⟩, ⟨t1, i1, [c], 0⟩] scope pos) 1 it acc env) R s)
    (h : wpAny (model prog w) A (pyIter it) (fun it' s' => codeAny (model prog w) A (.compLoop (.ListComp elt [⟨t0, i0, [], 0⟩, ⟨t1, i1, [c], 0⟩] scope pos) 1 it' acc env) R s')
      (notedBy (model prog w) A env fun x s' => R (.error x) s') s) :
    codeAny (model prog w) A (.compStart (.ListComp elt [⟨t0, i0, [], 0⟩, ⟨t1, i1, [c], 0⟩] scope pos) 1 it acc env) R s := by
  refine codeAny_of_tree ?_
  show wpAny _ _ ((compStart (.ListComp elt [⟨t0, i0, [], 0⟩, ⟨t1, i1, [c], 0⟩] scope pos) 1 it acc env).onRaise (fun x => do noteFrame x env; standAt theWindowsPlace)) _ _ s
  refine wpAny_notedAt ?_
  unfold compStart
  show wpAny _ _ (ask >>= _) _ _ s
  refine wpAny_bind (wpAny_askSetting (wpAny_ite ?_))
  split
  · first
      | exact wpAny_bind (wpAny_pure (wpAny_pure (And.intro rfl h0)))
      | exact wpAny_pure (And.intro rfl h0)
  · refine wpAny_bind (wpAny_rule ?_)
    show wpAny _ _ (standAt i1.pos >>= _) _ _ s
    exact wpAny_bind (wpAny_standAt (wpAny_bind (wpAny_mono h (fun it' s' h' => wpAny_pure (And.intro rfl h')) fun _ _ x => x)))

/-- the inner loop of a block of two clauses whose test no item passes: nothing is added -/
theorem compLoop_two1 {elt t0 i0 i1 c : Expr} {x : Str} {px : Pos} {scope : Scope} {pos : Pos} {I : Addr} {acc : Value} {cenv : Env} {fp wr : List Addr} {n : Nat} {P : Nat → Value → Prop} {St : Nat → Heap → Prop} {m : Str → Option Value}
    (W : Walks prog w A I fp wr n P St) (hk : cenv.scope.kind = .function) (hx : cenv.kindOf x = some .local) (hCf : cenv.locals ∉ fp) (hst : St 0 s.heap) (hn : s.heap.Ns cenv.locals m)
    (htest : ∀ i v s₂ E', i < n → P i v → NameIs cenv s₂.heap x v → wpAny (model prog w) A (isTrue c cenv (eval c cenv)) (fun ok s₃ => ok = false ∧ Keeps s₂ s₃) E' s₂)
    (hR : ∀ h' tk m', h'.Ns cenv.locals m' → (∀ b o, b ≠ cenv.locals → b ∉ wr → s.heap.get? b = some o → h'.get? b = some o) → R (.ok .next) { s with heap := h', toks := tk }) :
    codeAny (model prog w) A (.compLoop (.ListComp elt [⟨t0, i0, [], 0⟩, ⟨.Name x px, i1, [c], 0⟩] scope pos) 1 (.ref I) acc cenv) R s := by
  refine codeAny_loop rfl (fun k s' => ∃ h' tk m' i, s' = { s with heap := h', toks := tk } ∧ St i h' ∧ h'.Ns cenv.locals m' ∧ i ≤ n ∧ k = n + 1 - i ∧ (∀ b o, b ≠ cenv.locals → b ∉ wr → s.heap.get? b = some o → h'.get? b = some o)) ?_ (n + 1)
    ⟨_, _, m, 0, rfl, hst, hn, Nat.zero_le _, rfl, fun _ _ _ _ e => e⟩
  rintro k s' ⟨H, tk, m', i, rfl, hst', hn', hi, rfl, hkp⟩
  show wpAny _ A ((compTurn (.ListComp elt [⟨t0, i0, [], 0⟩, ⟨.Name x px, i1, [c], 0⟩] scope pos) 1 (.ref I) acc cenv).onRaise (fun x => do noteFrame x cenv; theTreesLotGoes x)) _ _ _
  refine wpAny_noted ?_
  rw [compTurn_two1]
  have hCw : cenv.locals ∉ wr := fun h => hCf (W.sub _ h)
  refine wpAny_bind (wpAny_standAt (wpAny_bind ?_))
  by_cases hlt : i < n
  · refine W.item i _ _ _ hlt hst' fun v h₁ tk₁ hPv hst₁ hk₁ => ?_
    refine wpAny_bind (wpAny_pure (wpAny_bind (wpAny_assign_Name (wpAny_storeName_local hx (hn'.at' fun o e => hk₁ _ o hCw e) (fun h₂ hn₂ hs₂ => ?_) (by rw [hk]; rfl)))))
    refine wpAny_bind (wpAny_tests_one ?_)
    refine wpAny_mono (htest i v _ _ hlt hPv (.inl ⟨hx, _, hn₂, by simp⟩)) (fun ok s₃ h₃ => ?_) fun _ _ e => e
    obtain ⟨rfl, h₃, tk₃, rfl, hk₃⟩ := h₃
    refine wpAny_pure ⟨rfl, ?_⟩
    refine ⟨n + 1 - (i + 1), by omega, h₃, tk₃, _, i + 1, rfl, ?_, hn₂.keeps hk₃, hlt, rfl, fun b o hbC hbf e => hk₃ b o (hs₂.extBut b o hbC (hk₁ b o hbf (hkp b o hbC hbf e)))⟩
    exact W.frame _ _ _ hst₁ fun b hb o e => hk₃ b o (hs₂.extBut b o (fun h => hCf (h ▸ hb)) e)
  · have hin : i = n := by omega
    refine W.done _ _ _ (hin ▸ hst') fun h₁ tk₁ hk₁ => ?_
    exact wpAny_pure (hR h₁ tk₁ m' (hn'.at' fun o e => hk₁ _ o hCw e) fun b o hbC hbf e => hk₁ b o hbf (hkp b o hbC hbf e))

theorem odd_comp {elt i0 c : Expr} {x0 x1 : Str} {p0 p1 p2 : Pos} {scope : Scope} {pos : Pos} {env : Env} {vl : Value} {lo : Nat} {T : List (List Bool)} {Q : Value → Shared → Prop} (hh : A.handled = none)
    (hclos : closureFor scope env = pure []) (hcf : ∀ n, cellsFrom n scope.names [] = []) (hpc : ∀ h, pushCells h scope.names = h)
    (hkind : scope.kind = .function) (hnames : ∀ y ∈ scope.names, y.2 = .local → scope.names.lookup y.1 = some .local)
    (hx0 : (relabel scope env).names.lookup x0 = some .local) (hx1 : (relabel scope env).names.lookup x1 = some .local)
    (hd0 : (x0 == ("__debug__" : Str)) = false) (hd0' : (x0 == ("__classdict__" : Str)) = false)
    (hs : ∀ x, foldedSetIterable i0 env x = pure x)
    (hT : TabIs lo s.heap vl T) (hTl : T.length ≤ 1000)
    (hi0 : wpAny (model prog w) A (eval i0 env) (fun v s' => v = vl ∧ s' = s) E s)
    (htest : ∀ C b s₂ E', NameIs (compEnvC scope [] C env) s₂.heap x1 (.bool b) → wpAny (model prog w) A (isTrue c (compEnvC scope [] C env) (eval c (compEnvC scope [] C env))) (fun ok s₃ => ok = false ∧ Keeps s₂ s₃) E' s₂)
    (hQ : ∀ D h' tk, s.heap.objs.size ≤ D → h'.PlainList D #[] → Grow s.heap h' → Q (.ref D) { s with heap := h', toks := tk }) :
    wpAny (model prog w) A (eval (.ListComp elt [⟨.Name x0 p0, i0, [], 0⟩, ⟨.Name x1 p1, .Name x0 p2, [c], 0⟩] scope pos) env) Q E s := by
  rw [eval_ListComp]
  refine wpAny_comprehension_free (use := none) (g := ⟨.Name x0 p0, i0, [], 0⟩) (gs := [⟨.Name x1 p1, .Name x0 p2, [c], 0⟩]) rfl hs hclos hkind hnames (wpAny_mono hi0 ?_ fun _ _ e => e)
  rintro v s' ⟨rfl, rfl⟩
  obtain ⟨a, vs, ha, rfl, hl, hlen, hrows⟩ := id hT
  refine wpAny_pyIter_list hl.isList ?_
  have halt : a < s'.heap.objs.size := Heap.lt_size hl.choose_spec
  generalize hH1 : s'.heap.push { cls := .type "list_iterator", data := .fields #[.ref a, .int 0 0] } = H1
  have hg1 : Grow s'.heap H1 := fun b o e => hH1 ▸ Heap.get?_push_of_some _ e
  have hz1 : H1.objs.size = s'.heap.objs.size + 1 := by rw [← hH1, Heap.size_push]
  have hit1 : H1.IsListIter s'.heap.objs.size a 0 := hH1 ▸ ⟨_, Heap.get?_push_size _ rfl, rfl, rfl⟩
  refine wpAny_newObj_type (newEnv_comp ?_)
  dsimp only
  rw [hcf, hpc]
  generalize hH2 : H1.push { cls := .type "list", dict := none, data := .seq ([] : List Value).toArray } = H2
  have hg2 : Grow H1 H2 := fun b o e => hH2 ▸ Heap.get?_push_of_some _ e
  have hz2 : H2.objs.size = s'.heap.objs.size + 2 := by rw [← hH2, Heap.size_push, hz1]
  have hD2 : H2.get? H1.objs.size = some { cls := .type "list", dict := none, data := .seq ([] : List Value).toArray } := hH2 ▸ Heap.get?_push_size _ rfl
  have hn3 : (H2.push { cls := .type "dict", data := .dict #[] }).Ns H2.objs.size (fun _ => none) := Heap.Ns.new H2 (.type "dict")
  have hg3 : Grow H2 (H2.push { cls := .type "dict", data := .dict #[] }) := fun b o e => Heap.get?_push_of_some _ e
  rw [hz1] at hD2 ⊢
  rw [hz2] at hn3 ⊢
  generalize H2.push { cls := .type "dict", data := .dict #[] } = H3 at *
  have hgs3 : Grow s'.heap H3 := grow_trans hg1 (grow_trans hg2 hg3)
  have hit3 := hit1.at fun o e => hg3 _ _ (hg2 _ _ e)
  have hD3 : H3.PlainList (s'.heap.objs.size + 1) #[] := ⟨_, hg3 _ _ hD2⟩
  generalize hN : s'.heap.objs.size = N at *
  have olt : ∀ b o, s'.heap.get? b = some o → b < N := fun b o e => hN ▸ Heap.lt_size e
  clear hH1 hH2 hg1 hg2 hg3 hz1 hz2 hD2 hit1
  show codeAny _ _ (.compStart _ 0 _ _ (compEnvC scope [] (N + 2) env)) _ _
  have hCk : (compEnvC scope [] (N + 2) env).scope.kind = .function := hkind
  have W := Walks.list (prog := prog) (w := w) hh N a (Nat.ne_of_lt halt) vs.toArray
  have loop : codeAny (model prog w) A (.compLoop (.ListComp elt [⟨.Name x0 p0, i0, [], 0⟩, ⟨.Name x1 p1, .Name x0 p2, [c], 0⟩] scope pos) 0 (.ref N) (.ref (N + 1)) (compEnvC scope [] (N + 2) env))
      (compPost (model prog w) A E none Q (.ref (N + 1)) (N + 2)) { s' with heap := H3 } := by
    refine codeAny_loop rfl (fun k s₂ => ∃ h' tk m' i, s₂ = { s' with heap := h', toks := tk } ∧ h'.IsListIter N a i ∧ h'.Ns (N + 2) m' ∧ h'.PlainList (N + 1) #[] ∧ i ≤ vs.length ∧ k = vs.length + 1 - i ∧ Grow s'.heap h') ?_ (vs.length + 1)
      ⟨_, _, _, 0, rfl, hit3, hn3, hD3, Nat.zero_le _, rfl, hgs3⟩
    rintro k s₂ ⟨H, tk, m', i, rfl, hit, hns, hD, hi, rfl, hgr⟩
    show wpAny _ A ((compTurn (.ListComp elt [⟨.Name x0 p0, i0, [], 0⟩, ⟨.Name x1 p1, .Name x0 p2, [c], 0⟩] scope pos) 0 (.ref N) (.ref (N + 1)) (compEnvC scope [] (N + 2) env)).onRaise (fun x => do noteFrame x (compEnvC scope [] (N + 2) env); theTreesLotGoes x)) _ _ _
    refine wpAny_noted ?_
    rw [compTurn_two0]
    refine wpAny_bind (wpAny_standAt (wpAny_bind ?_))
    by_cases hlt : i < vs.length
    · refine wpAny_pyNext_list_item hit (hl.isList.at fun o e => hgr _ _ e) (x := vs[i]) (by simp [hlt]) fun h₁ hit₁ hs₁ => ?_
      dsimp only at hs₁
      have hns₁ := hns.sameBut hs₁ (by simp)
      refine wpAny_bind (wpAny_pure (wpAny_bind (wpAny_assign_Name (wpAny_storeName_local hx0 hns₁ (fun h₂ hn₂ hs₂ => ?_) (by rw [hCk]; rfl)))))
      dsimp only at hs₂ hn₂
      have hgr₂ : Grow s'.heap h₂ := fun b o e => hs₂.extBut b o (by have := olt b o e; exact Nat.ne_of_lt (Nat.lt_of_lt_of_le this (Nat.le_add_right _ _))) (hs₁.extBut b o (Nat.ne_of_lt (olt b o e)) (hgr b o e))
      have hit₂ := hit₁.extBut hs₂.extBut (by show N ≠ N + 2; simp)
      have hD₂ := (hD.extBut hs₁.extBut (by simp)).extBut hs₂.extBut (by show N + 1 ≠ N + 2; simp)
      obtain ⟨b, hb, hvb, hlb⟩ := hrows i vs[i] (List.getElem?_eq_getElem hlt)
      refine wpAny_bind (NameIs.ev (v := .ref b) (.inl ⟨hx0, _, hn₂, by rw [← hvb]; simp⟩) ?_ hCk hd0 hd0')
      refine wpAny_bind (wpAny_standAt (wpAny_bind (wpAny_pure (wpAny_bind (wpAny_holding ?_)))))
      have hlb₂ := hlb.isList.at fun o e => hgr₂ _ _ e
      refine wpAny_pyIter_list hlb₂ ?_
      have hbl : b < h₂.objs.size := Heap.lt_size hlb₂.choose_spec.1
      have hCl : N + 2 < h₂.objs.size := by obtain ⟨o, _, _, e, _⟩ := hn₂; exact Heap.lt_size e
      have hgp : Grow h₂ (h₂.push { cls := .type "list_iterator", data := .fields #[.ref b, .int 0 0] }) := grow_push _ _
      have hit' : (h₂.push { cls := .type "list_iterator", data := .fields #[.ref b, .int 0 0] }).IsListIter h₂.objs.size b 0 := ⟨_, Heap.get?_push_size _ rfl, rfl, rfl⟩
      dsimp only
      generalize h₂.push { cls := .type "list_iterator", data := .fields #[.ref b, .int 0 0] } = h₃ at *
      refine wpAny_bind (wpAny_runOwn ?_)
      have W' := Walks.list (prog := prog) (w := w) (A := A.mark none) hh h₂.objs.size b (Nat.ne_of_lt hbl) ((T.getD i []).map Value.bool).toArray
      have inner : ∀ (R : Result → Shared → Prop) tk', (∀ h' tk m', h'.Ns (N + 2) m' → (∀ b o, b ≠ N + 2 → b ∉ [h₂.objs.size] → h₃.get? b = some o → h'.get? b = some o) → R (.ok .next) { s' with heap := h', toks := tk }) →
          codeAny (model prog w) (A.mark none) (.compLoop (.ListComp elt [⟨.Name x0 p0, i0, [], 0⟩, ⟨.Name x1 p1, .Name x0 p2, [c], 0⟩] scope pos) 1 (.ref h₂.objs.size) (.ref (N + 1)) (compEnvC scope [] (N + 2) env)) R { s' with heap := h₃, toks := tk' } := by
        intro R tk' hR
        refine compLoop_two1 W' hCk hx1 ?_ ⟨hit', hlb₂.at fun o e => hgp _ _ e⟩ (hn₂.keeps hgp) ?_ ?_
        · intro hm
          rcases List.mem_cons.mp hm with e | hm
          · exact absurd e (Nat.ne_of_lt hCl)
          · rw [List.mem_singleton] at hm
            have := olt b _ hlb.choose_spec
            have hm' : N + 2 = b := hm
            exact absurd this (by rw [← hm']; exact Nat.not_lt.mpr (Nat.le_add_right _ _))
        · intro j v s₂ E' hj hv hN
          have hv' : ∃ bb, v = Value.bool bb := by
            rw [List.getElem?_toArray, List.getElem?_map] at hv
            cases q : (T.getD i [])[j]? with
            | none => rw [q] at hv; cases hv
            | some bb => rw [q] at hv; exact ⟨bb, (Option.some.inj hv).symm⟩
          obtain ⟨bb, rfl⟩ := hv'
          exact htest (N + 2) bb s₂ E' hN
        · intro h' tk m' hn' hk
          exact hR h' tk m' hn' hk
      refine compStart_two1 (inner _ _ ?_) (W'.self 0 _ _ _ ⟨hit', hlb₂.at fun o e => hgp _ _ e⟩ (inner _ _ ?_))
      all_goals
        intro h₄ tk₄ m₄ hn₄ hk₄
        refine wpAny_pure ⟨rfl, vs.length + 1 - (i + 1), by omega, h₄, tk₄, m₄, i + 1, rfl, ?_, hn₄, ?_, hlt, rfl, ?_⟩
        · refine (hit₂.at fun o e => hgp _ _ e).at fun o e => hk₄ _ _ (by simp) ?_ e
          rw [List.mem_singleton]; exact Nat.ne_of_lt (Nat.lt_of_le_of_lt (Nat.le_add_right N 2) hCl)
        · refine (hD₂.at fun o e => hgp _ _ e).at fun o e => hk₄ _ _ (by simp) ?_ e
          rw [List.mem_singleton]; exact Nat.ne_of_lt (Nat.lt_of_le_of_lt (Nat.le_succ _) hCl)
        · intro b o e
          have hb := olt b o e
          refine hk₄ b o (Nat.ne_of_lt (Nat.lt_of_lt_of_le hb (Nat.le_add_right _ _))) ?_ (hgp _ _ (hgr₂ b o e))
          rw [List.mem_singleton]; exact Nat.ne_of_lt (Nat.lt_trans hb (Nat.lt_of_le_of_lt (Nat.le_add_right N 2) hCl))
    · refine wpAny_pyNext_list_end hh hit (hl.isList.at fun o e => hgr _ _ e) (by simp; omega) fun h₁ hx₁ => ?_
      refine wpAny_pure ⟨m', hns.extBut hx₁ (by simp), fun h'' hs'' => ?_⟩
      refine hQ (N + 1) h'' _ (Nat.le_succ _) ((hD.extBut hx₁ (by simp)).extBut hs''.extBut (by simp)) fun b o e => ?_
      have hb := olt b o e
      exact hs''.extBut b o (Nat.ne_of_lt (Nat.lt_of_lt_of_le hb (Nat.le_add_right _ _))) (hx₁ b o (Nat.ne_of_lt hb) (hgr b o e))
  exact codeAny_compStart_list loop (W.self 0 _ _ _ ⟨hit3, hl.isList.at fun o e => hgs3 _ _ e⟩ loop)
end

set_option maxHeartbeats 8000000 in
theorem odd_spec {prog : Program} {w : World} {A : Around} {E : Value → Shared → Prop} {s : Shared}
  (C : Cx w s.heap) (hroom : A.depth < recursionLimit) (hh : A.handled = none) {vl : Value} {lo : Nat} {T : List (List Bool)} (hT : TabIs lo s.heap vl T) (hTl : T.length ≤ 1000) {Q : Value → Shared → Prop}
  (hQ : ∀ D s', Keeps s s' → s'.heap.PlainList D #[] → Q (.ref D) s') :
   wpAny (model prog w) A (call (.ref 57) [vl]) Q E s := by
  refine call_fn C hroom (by rfl) (by rfl) (BindsTo.of_eq (by rfl)) (locs (by rfl)) (by decide) (by rfl) (by rfl) (by rfl) ?_
  intro L h₁ F C₁
  refine wpAny_execs_cons (wpAny_Return_some ?_)
  refine odd_comp (lo := lo) (T := T) hh (by rfl) (fun _ => by rfl) (fun _ => by rfl) (by rfl) (by decide) (by rfl) (by rfl) (by decide) (by decide) (fun _ => by rfl) (hT.up fun b o _ e => F.keep b o e) hTl (ld F (by rfl) ⟨rfl, rfl⟩) ?_ ?_
  · intro C b s₂ E' hN
    refine isTrue_and (wpAny_isTrue_Compare1 (NameIs.ev hN (Constant_bool (isnot_bool (wpAny_truthy_bool ?_)))))
    cases b
    · refine isTrue_and (wpAny_isTrue_Compare1 (NameIs.ev hN (Constant_bool (isnot_bool (wpAny_truthy_bool ?_)))))
      exact ⟨rfl, _, _, rfl, grow_refl _⟩
    · exact ⟨rfl, _, _, rfl, grow_refl _⟩
  · intro D h' tk hD hl hg
    exact hQ D _ ⟨_, _, rfl, grow_trans F.keep hg⟩ hl
end Mine

namespace Mine
open PySem.Builtin PySem.Builtin.Str PySem.Calls

def ownOf (x : Str) : Str := if x == Str.ofString "." then Str.ofString "..." else x
def menuOf (x : Str) : List Str := [ownOf x, ownOf x, ownOf x, ownOf x, ownOf x, Str.ofString "...", Str.ofString "...", Str.ofString "...", Str.ofString "...", Str.ofString "b", Str.ofString ".a", Str.ofString "..a"]
def partOf (x : Str) (m : Int) : Str := (menuOf x).getD (Int.fmod m 12).toNat Str.empty

theorem newList_ev {prog : Program} {w : World} {A : Around} {E : Value → Shared → Prop} {s : Shared} {vs : List Value} {Q : Value → Shared → Prop} (hsz : vs.length ≤ 1000)
    (h : ∀ h', h'.PlainList s.heap.objs.size vs.toArray → Grow s.heap h' → Q (.ref s.heap.objs.size) { s with heap := h' }) : wpAny (model prog w) A (newList vs) Q E s :=
  wpAny_newObj_type (h _ ⟨0, Heap.get?_push_size _ rfl⟩ (grow_push _ _)) (by show vs.toArray.size ≤ sizeLine; rw [List.size_toArray, sizeLine_eq]; omega)

/-- a list of texts -/
def StrList (h : Heap) (a : Addr) (ys : List Str) : Prop := ∃ vs, StrsAre vs ys ∧ h.PlainList a vs.toArray
theorem StrList.grow {h h' : Heap} {a : Addr} {ys : List Str} (x : StrList h a ys) (k : Grow h h') : StrList h' a ys := let ⟨vs, h1, h2⟩ := x; ⟨vs, h1, h2.at fun o e => k _ _ e⟩
theorem newStrs_ev {prog : Program} {w : World} {A : Around} {E : Value → Shared → Prop} {s : Shared} {vs : List Value} {ys : List Str} {Q : Value → Shared → Prop} (hs : StrsAre vs ys) (hsz : ys.length ≤ 1000)
    (h : ∀ h', StrList h' s.heap.objs.size ys → Grow s.heap h' → Q (.ref s.heap.objs.size) { s with heap := h' }) : wpAny (model prog w) A (newList vs) Q E s :=
  newList_ev (by rw [hs.len_eq]; exact hsz) fun h' hl hg => h h' ⟨vs, hs, hl⟩ hg

set_option maxHeartbeats 8000000 in
theorem part_spec {prog : Program} {w : World} {A : Around} {E : Value → Shared → Prop} {s : Shared}
  (C : Cx w s.heap) (hroom : A.depth < recursionLimit) (hh : A.handled = none) {x : Str} {m : Int} {t1 t2 : Tok} {Q : Value → Shared → Prop}
  (hQ : ∀ t s', Keeps s s' → Q (.str (partOf x m) t) s') :
   wpAny (model prog w) A (call (.ref 37) [.str x t1, .int m t2]) Q E s := by
  refine call_fn C hroom (by rfl) (by rfl) (BindsTo.of_eq (by rfl)) (locs (by rfl)) (by decide) (by rfl) (by rfl) (by rfl) ?_
  intro L h₁ F C₁
  refine wpAny_execs_cons (wpAny_Assign_Name (wpAny_mono (Q := fun v s' => ∃ t tk, v = .str (ownOf x) t ∧ s' = { s with heap := h₁, toks := tk }) (IfExp_ (wpAny_isTrue_Compare1 (ld F (by rfl) (Constant_str (eq_str (wpAny_truthy_bool ?_)))))) ?_ fun _ _ e => e))
  · split
    · rename_i h
      exact Constant_str ⟨_, _, by unfold ownOf; rw [if_pos h], rfl⟩
    · rename_i h
      exact ld F (by rfl) ⟨_, _, by unfold ownOf; rw [if_neg h], rfl⟩
  rintro v s' ⟨t, tk, rfl, rfl⟩
  refine st F ?_
  intro h₂ F₂
  dsimp only
  refine wpAny_execs_cons (wpAny_Return_some (Subscript_ (List_ ?_)))
  refine args_cons (ld F₂ (by rfl) (args_cons (ld F₂ (by rfl) (args_cons (ld F₂ (by rfl) (args_cons (ld F₂ (by rfl) (args_cons (ld F₂ (by rfl) ?_)))))))))
  refine args_cons (Constant_str (args_cons (Constant_str (args_cons (Constant_str (args_cons (Constant_str (args_cons (Constant_str (args_cons (Constant_str (args_cons (Constant_str (args_nil ?_))))))))))))))
  refine newStrs_ev (ys := menuOf x) (.cons _ _ (.cons _ _ (.cons _ _ (.cons _ _ (.cons _ _ (.cons _ _ (.cons _ _ (.cons _ _ (.cons _ _ (.cons _ _ (.cons _ _ (.cons _ _ .nil)))))))))))) (by simp [menuOf]) fun h₃ hl hg => ?_
  obtain ⟨vs, hsa, hl⟩ := hl
  dsimp only at hl hg ⊢
  have F₃ := F₂.keeps hg
  refine wpAny_BinOp (ld F₃ (by rfl) (wpAny_Constant_int (mod_int' (by decide) ?_)))
  have hm0 : 0 ≤ Int.fmod m 12 := Int.fmod_nonneg_of_pos m (by decide)
  have hm1 : Int.fmod m 12 < 12 := Int.fmod_lt_of_pos m (by decide)
  obtain ⟨tt, ht⟩ := StrsAre.get hsa (j := (Int.fmod m 12).toNat) (by show _ < 12; omega)
  refine tail_any (ops := [_, _]) hl.isList.typeIs slot_list_getitem.lookup (wpAny_getItem_list hl.isList hm0 (by omega) (x := .str (partOf x m) tt) ?_ ?_) (by with_unfolding_all rfl)
  · rw [List.getElem?_toArray]
    exact ht
  · exact hQ _ _ ⟨_, _, rfl, F₃.keep⟩
end Mine

namespace Mine
open PySem.Builtin PySem.Builtin.Str PySem.Calls

section
variable {prog : Program} {w : World} {A : Around} {E : Value → Shared → Prop} {s : Shared}
theorem iter_list {a : Addr} {items : Array Value} {Q : Value → Shared → Prop} (hl : s.heap.IsList a items)
    (h : ∀ h', h'.IsListIter s.heap.objs.size a 0 → Grow s.heap h' → Q (.ref s.heap.objs.size) { s with heap := h' }) : wpAny (model prog w) A (call (.builtin "iter") [.ref a]) Q E s := by
  refine call_function_entry (by decide +kernel) (by decide +kernel) kdk_entry_iter (kdk_args_iter _) ?_
  unfold Builtin.«iter»
  refine wpAny_bind (m := someArgs "iter" 1 2 _) (wpAny_of_eq (a := [Value.ref a]) (by first | rfl | kernel_rfl!) ?_)
  show wpAny _ _ (pyIter (.ref a) >>= _) _ _ _
  refine wpAny_bind (wpAny_pyIter_list hl ?_)
  exact wpAny_pure ⟨_, rfl, h _ ⟨_, Heap.get?_push_size _ rfl, rfl, rfl⟩ (grow_push _ _)⟩

theorem next_list {it l : Addr} {i : Nat} {items : Array Value} {x : Value} {Q : Value → Shared → Prop} (hit : s.heap.IsListIter it l i) (hl : s.heap.IsList l items) (hx : items[i]? = some x)
    (hQ : ∀ h', h'.IsListIter it l (i + 1) → Heap.SameBut it s.heap h' → Q x { s with heap := h' }) : wpAny (model prog w) A (call (.builtin "next") [.ref it]) Q E s := by
  obtain ⟨o, ho, hc, hd⟩ := id hit
  obtain ⟨ol, hol, _, nl, hdl⟩ := hl
  refine call_function_entry (by decide +kernel) (by decide +kernel) kdk_entry_next (kdk_args_next _) ?_
  unfold Builtin.«next»
  refine wpAny_bind (m := someArgs "next" 1 2 _) (wpAny_of_eq (a := [Value.ref it]) (by first | rfl | kernel_rfl!) ?_)
  dsimp only
  refine wpAny_bind (wpAny_specialOf (name := Str.ofString "__next__") hit.typeIs slot_listiter_next.lookup ?_)
  refine wpAny_ite_split (fun hab => absurd hab (by decide)) (fun _ => ?_)
  refine wpAny_bind (wpAny_callSpecial?_slot (name := Str.ofString "__next__") hit.typeIs slot_listiter_next
    (wpAny_call_entry slot_listiter_next hit.typeIs entry_listiter_next ?_ (args_listiter_next _)))
  show wpAny _ _ (field (.ref it) 0 >>= _) _ _ s
  refine wpAny_bind (wpAny_field ho hd (x := .ref l) rfl ?_)
  show wpAny _ _ (if (Value.ref l == Value.none) = true then _ else _) _ _ s
  rw [if_neg (show ¬ ((Value.ref l == Value.none) = true) from Bool.false_ne_true)]
  show wpAny _ _ (field (.ref it) 1 >>= _) _ _ s
  refine wpAny_bind (wpAny_field ho hd (x := .int i 0) rfl ?_)
  show wpAny _ _ (seqItems? (.ref l) >>= _) _ _ s
  refine wpAny_bind (wpAny_seqItems hol hdl ?_)
  simp only [Int.toNat_natCast, hx]
  refine wpAny_bind (wpAny_setField ho hd (by simp) (wpAny_pure ⟨x, rfl, wpAny_pure ⟨_, rfl, hQ _ ?_ (Heap.SameBut.update ..)⟩⟩))
  exact ⟨_, Heap.get?_update_self _ ho (Obj.isFreed_of_fields (Obj.data_mapFields hd _)), (Obj.cls_mapFields ..).trans hc, by
    rw [Obj.data_mapFields hd]; simp [rawInt]⟩
end

theorem square_join (n : Nat) (T U : List (List Bool)) : Square n (joinT n T U) := by
  refine ⟨by simp [joinT], fun i hi => ?_⟩
  unfold joinT
  rw [List.getD_eq_getElem?_getD]
  simp [hi]

/-- the items of a list told as tables -/
def TabsAre (lo : Nat) (h : Heap) (vs : List Value) (Ts : List (List (List Bool))) : Prop := vs.length = Ts.length ∧ ∀ i y, vs[i]? = some y → TabIs lo h y (Ts.getD i [])
theorem TabsAre.grow {lo : Nat} {h h' : Heap} {vs : List Value} {Ts : List (List (List Bool))} (x : TabsAre lo h vs Ts) (k : Grow h h') : TabsAre lo h' vs Ts := ⟨x.1, fun i y hy => (x.2 i y hy).grow k⟩

/-- a table all of whose objects lie at places of p -/
def TabP (p : Addr → Prop) (h : Heap) (v : Value) (T : List (List Bool)) : Prop :=
  ∃ a, ∃ vs : List Value, p a ∧ v = .ref a ∧ h.PlainList a vs.toArray ∧ vs.length = T.length ∧ ∀ i y, vs[i]? = some y → ∃ b, p b ∧ y = .ref b ∧ h.PlainList b ((T.getD i []).map Value.bool).toArray
theorem TabIs.toP {p : Addr → Prop} {lo : Nat} {h : Heap} {v : Value} {T : List (List Bool)} (x : TabIs lo h v T) (k : ∀ b o, lo ≤ b → h.get? b = some o → p b) : TabP p h v T :=
  let ⟨a, vs, h1, h2, h3, h4, h5⟩ := x
  ⟨a, vs, k a _ h1 h3.choose_spec, h2, h3, h4, fun i y hy => let ⟨b, g1, g2, g3⟩ := h5 i y hy; ⟨b, k b _ g1 g3.choose_spec, g2, g3⟩⟩
theorem TabP.up {p : Addr → Prop} {h h' : Heap} {v : Value} {T : List (List Bool)} (x : TabP p h v T) (k : ∀ b o, p b → h.get? b = some o → h'.get? b = some o) : TabP p h' v T :=
  let ⟨a, vs, h1, h2, h3, h4, h5⟩ := x
  ⟨a, vs, h1, h2, h3.at fun o e => k _ _ h1 e, h4, fun i y hy => let ⟨b, g1, g2, g3⟩ := h5 i y hy; ⟨b, g1, g2, g3.at fun o e => k _ _ g1 e⟩⟩
theorem TabP.is {p : Addr → Prop} {h : Heap} {v : Value} {T : List (List Bool)} (x : TabP p h v T) : TabIs 0 h v T :=
  let ⟨a, vs, h1, h2, h3, h4, h5⟩ := x
  ⟨a, vs, Nat.zero_le _, h2, h3, h4, fun i y hy => let ⟨b, g1, g2, g3⟩ := h5 i y hy; ⟨b, Nat.zero_le _, g2, g3⟩⟩

noncomputable def fd30 (w : World) : FuncData := match (KK w).lookup 30 with | some ⟨_, _, .func fd, _⟩ => fd | _ => default

set_option maxHeartbeats 8000000 in
theorem reduce_core {prog : Program} {w : World} {A : Around} {E : Value → Shared → Prop} {s : Shared}
  (C : Cx w s.heap) (hroom : A.depth + 1 < recursionLimit) (hh : A.handled = none) {args : List Value} {a : Addr} {vi : Value} {vs : List Value} {n lo : Nat} {T : List (List Bool)} {Ts Tall : List (List (List Bool))}
  (hb : BindsTo s (fd30 w) ⟨args, []⟩ [("function", .ref 52), ("sequence", .ref a), ("initial", vi)])
  (hl : s.heap.IsList a vs.toArray) (hTs : TabsAre lo s.heap vs Tall) (hcase : (vi = .ref 22 ∧ Tall = T :: Ts) ∨ (TabIs lo s.heap vi T ∧ Tall = Ts)) (sT : Square n T) (sTs : ∀ U ∈ Ts, Square n U) (hn : n ≤ 900) {Q : Value → Shared → Prop}
  (hQ : ∀ v s', Keeps s s' → TabIs 0 s'.heap v (Ts.foldl (joinT n) T) → Q v s') :
   wpAny (model prog w) A (call (.ref 30) args) Q E s := by
  refine call_fn C (by omega) (by rfl) (by rfl) hb (locs (by rfl)) (by decide) (by rfl) (by rfl) (by rfl) ?_
  intro L h₁ F C₁
  have hh' : ∀ env, (A.deeper env).handled = none := fun _ => hh
  have hal : a < s.heap.objs.size := Heap.lt_size hl.choose_spec.1
  have hl₁ : h₁.IsList a vs.toArray := hl.at fun o e => F.keep _ _ e
  refine wpAny_execs_cons (wpAny_Assign_Name (Call_ (nameB C₁ (by rfl) boot_iter (by decide) (callWith_builtin1 (args_cons (ld F (by rfl) (args_nil (iter_list hl₁ ?_))))))))
  intro h₂ hit₂ hg₂
  have hLlt : L < h₁.objs.size := Heap.lt_size F.ns.choose_spec.choose_spec.choose_spec.1
  have hITL : h₁.objs.size ≠ L := Nat.ne_of_gt hLlt
  have hITs : s.heap.get? h₁.objs.size = none := by
    cases q : s.heap.get? h₁.objs.size with
    | none => rfl
    | some o => exact absurd (Heap.lt_size (F.keep _ _ q)) (Nat.lt_irrefl _)
  dsimp only at hit₂ hg₂ ⊢
  have F₂ := F.keeps hg₂
  generalize h₁.objs.size = IT at *
  refine stS F₂ ?_
  intro h₃ F₃ hs₃
  have hit₃ := hit₂.extBut hs₃.extBut hITL
  dsimp only at hit₃ F₃ ⊢
  clear F F₂ hit₂ hg₂ hs₃ C₁ hl₁ hLlt
  have C₃ : Cx w h₃ := C.keeps F₃.keep
  have hP : ∀ h v U, TabIs lo s.heap v U → Grow s.heap h → TabP (fun b => b ≠ IT ∧ b ≠ L) h v U := fun h v U x g => (x.toP fun b o _ e => ⟨fun q => (by rw [q, hITs] at e; cases e), Nat.ne_of_lt (Nat.lt_of_lt_of_le (Heap.lt_size e) F₃.above)⟩).up fun b o _ e => g b o e
  -- the start
  refine wpAny_execs_cons (wpAny_mono (Q := fun f s' => f = .next ∧ ∃ h tk m i v, s' = { s with heap := h, toks := tk } ∧ Fr s.heap L h m ∧ h.IsListIter IT a i ∧ m "function" = some (.ref 52) ∧ m "it" = some (.ref IT) ∧ m "value" = some v ∧ TabP (fun b => b ≠ IT ∧ b ≠ L) h v T ∧ i ≤ Tall.length ∧ Tall.drop i = Ts)
    (wpAny_If (wpAny_isTrue_Compare1 (ld F₃ (by rfl) (nameK C₃ (by rfl) ?_)))) ?_ (fun _ _ e => e))
  · rcases hcase with ⟨rfl, rfl⟩ | ⟨hvi, rfl⟩
    · refine wpAny_is_ref_self (wpAny_truthy_bool ?_)
      rw [if_pos rfl]
      have hv0 : ∃ v0, vs[0]? = some v0 := ⟨_, List.getElem?_eq_getElem (by have := hTs.1; simp at this; omega)⟩
      obtain ⟨v0, hv0⟩ := hv0
      refine wpAny_execs_cons (wpAny_Try_except (wpAny_execs_cons (wpAny_Assign_Name (Call_ (nameB C₃ (by rfl) boot_next (by decide) (callWith_builtin1 (args_cons (ld F₃ (by rfl) (args_nil (next_list hit₃ (hl.at fun o e => F₃.keep _ _ e) (x := v0) (by simpa using hv0) ?_))))))))))
      intro h₄ hit₄ hs₄
      have F₄ := Fr.same F₃ hs₄ hITL hITs
      refine stS F₄ ?_
      intro h₅ F₅ hs₅
      have hit₅ := hit₄.extBut hs₅.extBut hITL
      refine wpAny_execs_nil ?_
      dsimp only
      refine wpAny_execs_nil ?_
      dsimp only
      refine wpAny_execs_nil ⟨rfl, _, _, _, 1, v0, rfl, F₅, hit₅, by rfl, by rfl, by rfl, hP h₅ v0 _ (hTs.2 0 v0 hv0) F₅.keep, by simp, by simp⟩
    · have hvi' := hvi
      obtain ⟨b, ws, hb1, rfl, hb2, _⟩ := hvi'
      have hne : b ≠ 22 := by
        intro e
        subst e
        obtain ⟨nn, e1⟩ := hb2
        have e2 := C.1 22 _ rfl
        rw [e1] at e2
        have e3 : Value.type "list" = Value.type "object" := congrArg Obj.cls (Option.some.inj e2)
        injection e3 with e4
        exact absurd e4 (by decide)
      obtain ⟨nn, e1⟩ := hb2
      refine wpAny_is_ref_other hne (F₃.keep _ _ e1) (C₃.1 22 _ rfl) (by simp) (wpAny_truthy_bool ?_)
      rw [if_neg (by decide)]
      refine wpAny_execs_cons (wpAny_Assign_Name (ld F₃ (by rfl) (stS F₃ ?_)))
      intro h₅ F₅ hs₅
      have hit₅ := hit₃.extBut hs₅.extBut hITL
      refine wpAny_execs_nil ⟨rfl, _, _, _, 0, _, rfl, F₅, hit₅, by rfl, by rfl, by rfl, hP h₅ _ _ hvi F₅.keep, by simp, by simp⟩
  rintro f s' ⟨rfl, h, tk, m, i, v, rfl, F, hit, hfun, hmit, hval, hT, hi, hdrop⟩
  dsimp only
  clear F₃ hit₃ C₃
  have haIT : a ≠ IT := by
    intro e
    obtain ⟨o, ho, _⟩ := hl
    rw [e, hITs] at ho
    cases ho
  refine wpAny_execs_cons (wpAny_For (ld F hmit (wpAny_pyIter_listiter hit ?_)))
  refine codeAny_forLoop (fun k s' => ∃ h tk m i v U, s' = { s with heap := h, toks := tk } ∧ Fr s.heap L h m ∧ h.IsListIter IT a i ∧ m "function" = some (.ref 52) ∧ m "value" = some v ∧ TabP (fun b => b ≠ IT ∧ b ≠ L) h v U ∧ Square n U ∧ i ≤ Tall.length ∧
    (∀ V ∈ Tall.drop i, Square n V) ∧ (Tall.drop i).foldl (joinT n) U = Ts.foldl (joinT n) T ∧ k = Tall.length + 1 - i) ?_ (Tall.length + 1 - i) ⟨_, _, m, i, v, T, rfl, F, hit, hfun, hval, hT, sT, hi, by rw [hdrop]; exact sTs, by rw [hdrop], rfl⟩
  clear F hit hfun hmit hval hT hi hdrop
  rintro k s' ⟨h, tk, m, i, v, U, rfl, F, hit, hfun, hval, hU, sU, hi, hsq, hfold, rfl⟩
  by_cases hlt : i < Tall.length
  · have hvs : i < vs.length := by rw [hTs.1]; exact hlt
    have hd : Tall.drop i = Tall.getD i [] :: Tall.drop (i + 1) := by
      rw [List.drop_eq_getElem_cons hlt, List.getD_eq_getElem?_getD, List.getElem?_eq_getElem hlt]; rfl
    rw [hd] at hsq hfold
    refine wpAny_pyNext_list_item hit (hl.at fun o e => F.keep _ _ e) (x := vs[i]) (by simp [hvs]) ?_
    intro h₁ hit₁ hs₁
    have F₁ := Fr.same F hs₁ hITL hITs
    dsimp only at F₁ ⊢
    have hU₁ := hU.up (h' := h₁) fun b o p e => hs₁.extBut b o p.1 e
    refine wpAny_assign_Name (stS F₁ ?_)
    intro h₂ F₂ hs₂
    dsimp only at F₂ hs₂ ⊢
    have hU₂ := hU₁.up (h' := h₂) fun b o p e => hs₂.extBut b o p.2 e
    have hit₂ := hit₁.extBut hs₂.extBut hITL
    have C₂ : Cx w h₂ := C.keeps F₂.keep
    have hV : TabIs lo h₂ vs[i] (Tall.getD i []) := (hTs.2 i vs[i] (List.getElem?_eq_getElem hvs)).grow F₂.keep
    refine wpAny_execs_cons (wpAny_Assign_Name (Call_ (ld F₂ hfun (callWith_K (K := KK w) C₂.1 (by rfl) (args_cons (ld F₂ hval (args_cons (ld F₂ (by rfl) (args_nil ⟨C₂.1, ?_⟩)))))))))
    dsimp only [List.nil_append]
    refine joined_spec (by exact C₂) (by exact hroom) (hh' _) (by exact hU₂.is) (by exact hV) sU (hsq _ List.mem_cons_self) hn ?_
    rintro v₃ s₃ ⟨h₃, tk₃, rfl, hk₃⟩ hJ
    dsimp only at hJ hk₃
    have F₃' := F₂.keeps hk₃
    have hit₃ := hit₂.at fun o e => hk₃ _ _ e
    have hJP : TabP (fun b => b ≠ IT ∧ b ≠ L) h₃ v₃ _ := hJ.toP fun b o hb _ =>
      ⟨Nat.ne_of_gt (Nat.lt_of_lt_of_le (Heap.lt_size hit₂.choose_spec.1) hb), Nat.ne_of_gt (Nat.lt_of_lt_of_le (Heap.lt_size F₂.ns.choose_spec.choose_spec.choose_spec.1) hb)⟩
    refine stS F₃' ?_
    intro h₄ F₄ hs₄
    dsimp only at F₄ hs₄ ⊢
    refine wpAny_execs_nil ⟨_, by omega, _, _, _, i + 1, _, _, rfl, F₄, hit₃.extBut hs₄.extBut hITL, hfun, by rfl, hJP.up fun b o p e => hs₄.extBut b o p.2 e, square_join n U _, hlt, fun V hV => hsq V (List.mem_cons_of_mem _ hV), hfold, rfl⟩
  · have hnil : Tall.drop i = [] := List.drop_of_length_le (by omega)
    rw [hnil] at hfold
    refine wpAny_pyNext_list_end (hh' _) hit (hl.at fun o e => F.keep _ _ e) (by have := hTs.1; simp; omega) ?_
    intro h₁ hx₁
    have F₁ := Fr.ext F hx₁ hITL hITs
    refine wpAny_execs_nil ?_
    dsimp only
    refine wpAny_execs_cons (wpAny_Return_some (ld F₁ hval ?_))
    refine hQ _ _ ⟨_, _, rfl, F₁.keep⟩ ?_
    rw [← hfold]
    exact (hU.up (h' := h₁) fun b o p e => hx₁ b o p.1 e).is

theorem reduce_spec2 {prog : Program} {w : World} {A : Around} {E : Value → Shared → Prop} {s : Shared}
  (C : Cx w s.heap) (hroom : A.depth + 1 < recursionLimit) (hh : A.handled = none) {a : Addr} {vs : List Value} {n lo : Nat} {T : List (List Bool)} {Ts : List (List (List Bool))}
  (hl : s.heap.IsList a vs.toArray) (hTs : TabsAre lo s.heap vs (T :: Ts)) (sT : Square n T) (sTs : ∀ U ∈ Ts, Square n U) (hn : n ≤ 900) {Q : Value → Shared → Prop}
  (hQ : ∀ v s', Keeps s s' → TabIs 0 s'.heap v (Ts.foldl (joinT n) T) → Q v s') :
   wpAny (model prog w) A (call (.ref 30) [.ref 52, .ref a]) Q E s :=
  reduce_core C hroom hh (vi := .ref 22) (binds_K C.1 (by rfl) (by rfl) (by rfl) (by rfl) (by rfl)) hl hTs (.inl ⟨rfl, rfl⟩) sT sTs hn hQ
theorem reduce_spec3 {prog : Program} {w : World} {A : Around} {E : Value → Shared → Prop} {s : Shared}
  (C : Cx w s.heap) (hroom : A.depth + 1 < recursionLimit) (hh : A.handled = none) {a : Addr} {vi : Value} {vs : List Value} {n lo : Nat} {T : List (List Bool)} {Ts : List (List (List Bool))}
  (hl : s.heap.IsList a vs.toArray) (hvi : TabIs lo s.heap vi T) (hTs : TabsAre lo s.heap vs Ts) (sT : Square n T) (sTs : ∀ U ∈ Ts, Square n U) (hn : n ≤ 900) {Q : Value → Shared → Prop}
  (hQ : ∀ v s', Keeps s s' → TabIs 0 s'.heap v (Ts.foldl (joinT n) T) → Q v s') :
   wpAny (model prog w) A (call (.ref 30) [.ref 52, .ref a, vi]) Q E s :=
  reduce_core C hroom hh (binds_K C.1 (by rfl) (by rfl) (by rfl) (by rfl) (by rfl)) hl hTs (.inr ⟨hvi, rfl⟩) sT sTs hn hQ
end Mine

namespace Mine
open PySem.Builtin PySem.Builtin.Str PySem.Calls

theorem code_fnC {prog : Program} {w : World} {A : Around} {s : Shared} {R : Result → Shared → Prop} {fd : FuncData} {body : List Stmt} {oc : Value} {od : Option Addr} {osl : Array (Option Value)} {f : Addr} {args : List Value} {binds : List (Str × Value)}
    (C : Cx w s.heap) (hroom : A.depth < recursionLimit)
    (ho : (KK w).lookup f = some ⟨oc, od, .func fd, osl⟩) (hcd : codeIn (KK w) fd.code fd.qualname = true) (hbody : fd.body = .stmts body)
    (hbind : bindArgs fd ⟨args, []⟩ = pure binds) (hclo : fd.closure = [])
    (hkind : ∀ n, ∀ x ∈ binds, fd.scope.names.lookup x.1 = some .local ∨ (fd.scope.names.lookup x.1 = some .cell ∧ ((cellsFrom n fd.scope.names []).lookup x.1).isSome = true))
    (hco : fd.scope.isCoroutine = false) (hgen : fd.scope.isGenerator = false) (hk : fd.scope.kind = .function)
    (h : ∀ L s₁, InCallC s L (bindL (callEnvC fd L f).kindOf binds fun _ => none) (cellsFrom (L + 1) fd.scope.names []) (bindC (callEnvC fd L f).kindOf binds fun _ => none) s₁ → s.heap.objs.size ≤ L → Cx w s₁.heap →
      wpAny (model prog w) (A.deeper (callEnvC fd L f)) (execs body (callEnvC fd L f)) (fun fl s' => R (.ok (.ret (match fl with | .ret v => v | _ => .none))) s') (fun _ _ => False) s₁) :
    codeAny (model prog w) A (.call (.ref f) ⟨args, []⟩) R s := by
  have C' := C
  obtain ⟨X, p, l, mg, mb, T⟩ := C'
  refine codeAny_call_cells hroom (X _ _ ho) rfl T.nolimit (codeRec_of X hcd) hbody hbind hclo (hkind _) (fun s₁ x => ?_) hco hgen hk
  exact wpAny_mono (h _ s₁ x (Nat.le_refl _) (C.keeps x.toInCall.keep)) (fun _ _ q => q) (fun _ _ q => q.elim)

section
variable {prog : Program} {w : World} {A : Around} {E : Value → Shared → Prop} {s : Shared}
theorem sum_ev {l : Addr} {vs : List Value} {ns : List Int} {Q : Value → Shared → Prop} (hh : A.handled = none) (hl : s.heap.IsList l vs.toArray) (hi : IntsAre vs ns)
    (h : ∀ z t h' tk, Grow s.heap h' → Q (.int z t) { s with heap := h', toks := tk }) : wpAny (model prog w) A (call (.builtin "sum") [.ref l]) Q E s := by
  obtain ⟨xs, hx⟩ := hi.allInts.items
  rw [hx] at hl
  exact sum_intListG hh hl fun h' tk t' hk => h _ _ h' tk hk
/-- a list sliced -/
theorem slice_list {value slice : Expr} {ops : List Value} {l : Addr} {vs : List Value} {vl vu vt : Value} {lo hi st : Option Int} {Q : Value → Shared → Prop} (hl : s.heap.IsList l vs.toArray) (hsz : vs.length ≤ 1000) (pl : IsPart vl lo) (pu : IsPart vu hi) (ps : IsPart vt st) (h0 : st ≠ some 0)
    (h : ∀ a h', s.heap.objs.size ≤ a → h'.PlainList a (slicePick vs.toArray lo hi st) → Grow s.heap h' → Q (.ref a) { s with heap := h' })
    (hs : subscripted slice false (.ref l) (.ref s.heap.objs.size) = operate ops (getItem (.ref l) (.ref s.heap.objs.size)) := by with_unfolding_all rfl) :
    wpAny (model prog w) A (subscriptTail value slice (.ref l) (.ref s.heap.objs.size)) Q E { s with heap := s.heap.push { cls := .type "slice", data := .fields #[vl, vu, vt] } } := by
  have hl' : (s.heap.push { cls := .type "slice", data := .fields #[vl, vu, vt] }).IsList l vs.toArray := hl.push _
  have hty : ({ s with heap := s.heap.push { cls := .type "slice", data := .fields #[vl, vu, vt] } } : Shared).TypeIs (.ref l) "list" := Heap.IsList.typeIs (s := { s with heap := s.heap.push { cls := .type "slice", data := .fields #[vl, vu, vt] } }) hl'
  refine tail_any hty slot_list_getitem.lookup (wpAny_getItem_list_slice hl' (Heap.IsSliceOf.new _ _ _ _) pl pu ps h0 ?_ (by rw [sizeLine_eq, List.size_toArray]; omega)) hs
  dsimp only
  refine h _ _ ?_ ⟨0, Heap.get?_push_size _ rfl⟩ (grow_trans (grow_push _ _) (grow_push _ _))
  rw [Heap.size_push]; exact Nat.le_succ _
end

theorem stable_int : Stable (fun (_ : Nat) _ _ y => ∃ z t, y = Value.int z t) := ⟨fun _ _ _ _ _ e _ => e, fun _ _ _ _ _ _ e => e⟩
theorem ints_of : ∀ (ys : List Value), (∀ (i : Nat) y, ys[i]? = some y → ∃ z t, y = Value.int z t) → ∃ zs : List Int, IntsAre ys zs
  | [], _ => ⟨[], .nil⟩
  | y :: r, h => by
    obtain ⟨z, t, rfl⟩ := h 0 y rfl
    obtain ⟨zs, hz⟩ := ints_of r fun i y hy => h (i + 1) y hy
    exact ⟨z :: zs, .cons z t hz⟩
/-- a list of ints -/
def IntList (h : Heap) (a : Addr) (ns : List Int) : Prop := ∃ vs, IntsAre vs ns ∧ h.PlainList a vs.toArray
theorem IntList.at {h h' : Heap} {a : Addr} {ns : List Int} (x : IntList h a ns) (k : ∀ o, h.get? a = some o → h'.get? a = some o) : IntList h' a ns := let ⟨vs, h1, h2⟩ := x; ⟨vs, h1, h2.at k⟩
theorem newInts_ev {prog : Program} {w : World} {A : Around} {E : Value → Shared → Prop} {s : Shared} {vs : List Value} {ns : List Int} {Q : Value → Shared → Prop} (hs : IntsAre vs ns) (hsz : ns.length ≤ 1000)
    (h : ∀ h', IntList h' s.heap.objs.size ns → Grow s.heap h' → Q (.ref s.heap.objs.size) { s with heap := h' }) : wpAny (model prog w) A (newList vs) Q E s :=
  newList_ev (by rw [hs.length]; exact hsz) fun h' hl hg => h h' ⟨vs, hs, hl⟩ hg
theorem ints_get {vs : List Value} {ns : List Int} (h : IntsAre vs ns) {j : Nat} (hj : j < ns.length) : ∃ t, vs[j]? = some (.int (ns.getD j 0) t) := by
  have hl := h.length
  have hv : j < vs.length := by omega
  obtain ⟨t, e⟩ := IntsAre.int_at h j vs[j] (List.getElem?_eq_getElem hv)
  exact ⟨t, by rw [List.getElem?_eq_getElem hv, e]⟩

theorem swaps_List (e p t l) (env : Env) : swapsWith (.List e p) t l env = pure false := rfl
theorem swaps_Call (f a k p t l) (env : Env) : swapsWith (.Call f a k p) t l env = pure false := rfl
theorem swaps_BinOp (f a k p t l) (env : Env) : swapsWith (.BinOp f a k p) t l env = pure false := rfl
theorem swaps_Comp {elt gens scope pos x px l} {env : Env} (h : (env.kindOf x == some .local) = false) : swapsWith (.ListComp elt gens scope pos) (some (.Name x px)) l env = pure false := by
  have e : swapsWith (.ListComp elt gens scope pos) (some (.Name x px)) l env = pure (env.blockKind == .function && env.kindOf x == some .local && px.line == (Expr.ListComp elt gens scope pos).pos.line
      && !(scope.names.any fun (n, k) => n == x && (k == .local || k == .cell))) := rfl
  rw [e, h, Bool.and_false, Bool.false_and, Bool.false_and]

theorem star_const (c : Const) (k : Nat) (p : Pos) (rest : List Expr) (env : Env) : starEach (.Constant c k p :: rest) env = (false, eval (.Constant c k p) env) :: starEach rest env := rfl

noncomputable def fd62 (w : World) : FuncData := match (KK w).lookup 62 with | some ⟨_, _, .func fd, _⟩ => fd | _ => default

noncomputable def lawBody (w : World) : List Stmt := match (fd62 w).body with | .stmts b => b | _ => []
noncomputable abbrev lawEnv (w : World) (L : Addr) : Env := callEnvC (fd62 w) L 62
/-- what holds of the law's frame at every statement from the third on -/
structure LawSt (s : Shared) (L aS : Addr) (zs : List Int) (m : Str → Option Value) (h : Heap) : Prop where
  ns : h.Ns L m
  grow : Grow s.heap h
  low : s.heap.objs.size ≤ L
  sums : h.IsCell (L + 3) (some (.ref aS))
  list : IntList h aS zs
  above : L + 4 < aS
  len : zs.length = 10

set_option maxHeartbeats 8000000 in
theorem lawA {prog : Program} {w : World} {A : Around} {s : Shared}
  (C : Cx w s.heap) (hroom : A.depth + 3 < recursionLimit) (hh : A.handled = none) {a : Addr} {vs : List Value} {ns : List Int} (hl : s.heap.IsList a vs.toArray) (hI : IntsAre vs ns) (hlen : ns.length ≤ 63) {R : Result → Shared → Prop}
  (hnext : ∀ L h tk m aS zs, LawSt s L aS zs m h → h.IsCell (L + 4) none → wpAny (model prog w) (A.deeper (lawEnv w L)) (execs ((lawBody w).drop 2) (lawEnv w L)) (fun fl s' => R (.ok (.ret (match fl with | .ret v => v | _ => .none))) s') (fun _ _ => False) { s with heap := h, toks := tk }) :
   codeAny (model prog w) A (.call (.ref 62) ⟨[.ref a], []⟩) R s := by
  refine code_fnC (fd := fd62 w) C (by omega) (by rfl) (by rfl) (by rfl) (by rfl) (by rfl) ?_ (by rfl) (by rfl) (by rfl) ?_
  · exact kindsX (by rfl)
  intro L s₁ I hL C₁
  have hscr : s₁.heap.IsCell (L + 1) (some (.ref a)) := I.cell "script" (L + 1) rfl
  obtain ⟨h₁, tk₁, rfl, hk₁⟩ := I.done
  have hahd0 : h₁.IsCell (L + 2) none := I.cell "ahead" (L + 2) rfl
  have hsum0 : h₁.IsCell (L + 3) none := I.cell "sums" (L + 3) rfl
  have htxt0 : h₁.IsCell (L + 4) none := I.cell "text" (L + 4) rfl
  have hns0 : h₁.Ns L _ := I.toInCall.ns
  dsimp only at hscr C₁
  clear I
  refine wpAny_execs_cons ?_
  refine wpAny_Assign_Name ?_ ?hs
  case hs => exact swaps_List _ _ _ _ _
  refine List_ ?_
  iterate 10 refine args_cons (wpAny_Constant_int ?_) (star_const _ _ _ _ _)
  refine args_nil ?_
  refine newInts_ev (ns := [0, 2, 0, 2, 0, 0, 0, 5, 0, 0]) (.cons _ _ (.cons _ _ (.cons _ _ (.cons _ _ (.cons _ _ (.cons _ _ (.cons _ _ (.cons _ _ (.cons _ _ (.cons _ _ .nil)))))))))) (by simp) fun h₂ hla hg₂ => ?_
  have hLlt : L < h₁.objs.size := Heap.lt_size hns0.choose_spec.choose_spec.choose_spec.1
  dsimp only at hla hg₂ ⊢
  generalize haA : h₁.objs.size = aA at hla hLlt ⊢
  refine wpAny_storeName_cell (by rfl) (by rfl) (by rfl) (hahd0.keeps hg₂) fun h₃ hahd hs₃ => ?_
  dsimp only at hs₃ ⊢
  have htl : L + 4 < aA := haA ▸ htxt0.lt
  have ext₃ : ∀ b o, b ≠ L + 2 → h₁.get? b = some o → h₃.get? b = some o := fun b o hb e => hs₃.extBut b o hb (hg₂ b o e)
  have hG₃ : Grow s.heap h₃ := fun b o e => ext₃ b o (Nat.ne_of_lt (Nat.lt_of_lt_of_le (Heap.lt_size e) (Nat.le_trans hL (Nat.le_add_right _ _)))) (hk₁ b o e)
  have hscr₃ : h₃.IsCell (L + 1) (some (.ref a)) := (hscr.keeps hg₂).sameBut hs₃ (by simp)
  have hsum₃ : h₃.IsCell (L + 3) none := (hsum0.keeps hg₂).sameBut hs₃ (by simp)
  have htxt₃ : h₃.IsCell (L + 4) none := (htxt0.keeps hg₂).sameBut hs₃ (by simp)
  have hns₃ := (hns0.keeps hg₂).sameBut hs₃ (by simp)
  have hla₃ : IntList h₃ aA _ := hla.at fun o e => hs₃.extBut _ o (Nat.ne_of_gt (Nat.lt_of_le_of_lt (Nat.add_le_add_left (by decide) L) htl)) e
  have C₃ : Cx w h₃ := C.keeps hG₃
  clear ext₃ hs₃ hla hahd0 hsum0 htxt0 hns0 hscr C₁ hg₂ hk₁
  -- sums
  refine wpAny_execs_cons ?_
  refine wpAny_Assign_Name ?_ ?hs
  case hs => exact swaps_Comp (by rfl)
  refine comp_src false hh (by rfl) (fun _ => by rfl) (fun _ => by rfl) (by rfl) (by decide) (by rfl) stable_int (fun _ => by rfl) ?_
  refine Call_ (nameB C₃ (by rfl) boot_range (by decide) ?_)
  refine callWith_type1 (args_cons (wpAny_Constant_int ?_))
  refine args_nil (call_range_1 ?_)
  dsimp only
  refine ⟨_, _, Src.range (n := 10) (Heap.get?_push_size _ rfl) (by decide) (by decide), by omega, ?_, ?_⟩
  · rintro C' k v s₄ E' hk ⟨tk, rfl⟩ hN hg₄
    replace hg₄ := grow_trans (grow_push _ _) hg₄
    rw [Int.zero_add] at hN
    have C₄ := C₃.keeps hg₄
    obtain ⟨va, hva, hpa⟩ := hla₃
    obtain ⟨t0, ht0⟩ := ints_get hva (j := k) hk
    refine wpAny_BinOp (Subscript_ ?_)
    refine NameIs.ev (.inr ⟨.inl rfl, _, rfl, hahd.keeps hg₄⟩) ?_
    refine NameIs.ev hN ?_
    refine item_list (hpa.isList.at fun o e => hg₄ _ _ e) (by omega) (by omega) (by simpa using ht0) ?_
    refine Call_ (nameB C₄ (by rfl) Boot.sum (by decide) ?_)
    refine callWith_builtin1 (args_cons (Subscript_ ?_))
    refine NameIs.ev (.inr ⟨.inl rfl, _, rfl, hscr₃.keeps hg₄⟩) ?_
    refine wpAny_Slice (evalPart_some_step ?_)
    refine NameIs.ev hN ?_
    refine evalPart_none_step (evalPart_some_step (wpAny_Constant_int ?_))
    refine slice_list (hl.at fun o e => hg₄ _ _ (hG₃ _ _ e)) (by rw [hI.length]; omega) (.int _ _) .none (.int _ _) (by decide) ?_
    intro b h₅ hb hlb hg₅
    refine args_nil ?_
    dsimp only at hlb hg₅ ⊢
    have hpk := hI.pick (some (k : Int)) none (some 10)
    refine sum_ev (vs := (slicePick vs.toArray (some (k : Int)) none (some 10)).toList) hh (by simpa using hlb.isList) hpk ?_
    intro z tz h₆ tk₆ hg₆
    refine add_int ?_
    exact ⟨⟨_, _, rfl⟩, _, _, rfl, grow_trans hg₅ hg₆⟩
  intro aS h₄ tk₄ ys haS hlS hlenS hys hg₄
  (try dsimp only)
  replace hg₄ := grow_trans (grow_push _ _) hg₄
  have haS' : h₃.objs.size < aS := Nat.lt_of_lt_of_le (by rw [Heap.size_push]; exact Nat.lt_succ_self _) haS
  obtain ⟨zs, hzs⟩ := ints_of ys hys
  have hzl : zs.length = 10 := by rw [← hzs.length]; exact hlenS
  have hSum : IntList h₄ aS zs := ⟨ys, hzs, hlS⟩
  clear hlS hys hzs hlenS haS ys
  refine wpAny_storeName_cell (by rfl) (by rfl) (by rfl) (hsum₃.keeps hg₄) fun h₅ hsum hs₅ => ?_
  (try dsimp only at hs₅ ⊢)
  have hL3 : L + 4 < h₃.objs.size := htxt₃.lt
  refine hnext L h₅ tk₄ _ aS zs ⟨(hns₃.keeps hg₄).sameBut hs₅ (by simp), fun b o e => hs₅.extBut b o ?_ (hg₄ b o (hG₃ b o e)), hL, hsum, hSum.at fun o e => hs₅.extBut _ o ?_ e, Nat.lt_trans hL3 haS', hzl⟩ ((htxt₃.keeps hg₄).sameBut hs₅ (by simp))
  · exact Nat.ne_of_lt (Nat.lt_of_lt_of_le (Heap.lt_size e) (Nat.le_trans hL (Nat.le_add_right _ _)))
  · exact Nat.ne_of_gt (Nat.lt_trans (Nat.lt_trans (Nat.lt_succ_self _) hL3) haS')
end Mine

namespace Mine
open PySem.Builtin PySem.Builtin.Str PySem.Calls

theorem stable_str (f : Nat → Str) : Stable (fun i _ _ y => ∃ t, y = Value.str (f i) t) := ⟨fun _ _ _ _ _ e _ => e, fun _ _ _ _ _ _ e => e⟩
theorem strs_ofAux (f : Nat → Str) : ∀ (ys : List Value) (k : Nat), (∀ (i : Nat) y, ys[i]? = some y → ∃ t, y = Value.str (f (k + i)) t) → StrsAre ys ((List.range' k ys.length).map f)
  | [], _, _ => .nil
  | y :: r, k, h => by
    obtain ⟨t, rfl⟩ := h 0 y rfl
    have ih := strs_ofAux f r (k + 1) fun i y hy => by
      have := h (i + 1) y hy
      rwa [show k + (i + 1) = k + 1 + i by omega] at this
    simp only [List.length_cons, List.range'_succ, List.map_cons]
    exact .cons _ _ ih
theorem strs_of {f : Nat → Str} {ys : List Value} {n : Nat} (hl : ys.length = n) (h : ∀ (i : Nat) y, ys[i]? = some y → ∃ t, y = Value.str (f i) t) : StrsAre ys ((List.range n).map f) := by
  have := strs_ofAux f ys 0 (by simpa using h)
  rwa [hl, ← List.range_eq_range'] at this

def signOf (z : Int) : Str := Txt.item (Str.ofString "aab\n.") (Int.fmod z 5)
def textOf (zs : List Int) : Str := Txt.join Str.empty ((List.range 5).map fun i => signOf (zs.getD i 0))
theorem len_sign (z : Int) : (signOf z).length = 1 := len_item _ _

section
variable {prog : Program} {w : World} {A : Around} {s : Shared} {E : Value → Shared → Prop} {Q : Flow → Shared → Prop} {L aS : Addr} {zs : List Int} {m : Str → Option Value} {h : Heap} {tk : Nat}

theorem LawSt.cx {w : World} (S : LawSt s L aS zs m h) (C : Cx w s.heap) : Cx w h := C.keeps S.grow
theorem LawSt.keep {h' : Heap} (S : LawSt s L aS zs m h) (g : Grow h h') : LawSt s L aS zs m h' :=
  ⟨S.ns.keeps g, grow_trans S.grow g, S.low, S.sums.keeps g, S.list.at fun o e => g _ _ e, S.above, S.len⟩
theorem LawSt.cellset {h' : Heap} (S : LawSt s L aS zs m h) (hs : Heap.SameBut (L + 4) h h') : LawSt s L aS zs m h' :=
  ⟨S.ns.sameBut hs (by simp), fun b o e => hs.extBut b o (Nat.ne_of_lt (Nat.lt_of_lt_of_le (Heap.lt_size e) (Nat.le_trans S.low (Nat.le_add_right _ _)))) (S.grow b o e), S.low, S.sums.sameBut hs (by simp),
    S.list.at fun o e => hs.extBut _ o (Nat.ne_of_gt S.above) e, S.above, S.len⟩
theorem LawSt.set {h' : Heap} {m' : Str → Option Value} (S : LawSt s L aS zs m h) (hn : h'.Ns L m') (hs : Heap.ExtBut L h h') : LawSt s L aS zs m' h' :=
  ⟨hn, fun b o e => hs b o (Nat.ne_of_lt (Nat.lt_of_lt_of_le (Heap.lt_size e) S.low)) (S.grow b o e), S.low, let ⟨o, e, d⟩ := S.sums; ⟨o, hs _ _ (by simp) e, d⟩,
    S.list.at fun o e => hs _ o (Nat.ne_of_gt (Nat.lt_of_le_of_lt (Nat.le_add_right L 4) S.above)) e, S.above, S.len⟩

set_option maxHeartbeats 8000000 in
theorem lawB (C : Cx w s.heap) (hh : A.handled = none) (S : LawSt s L aS zs m h) (htx : h.IsCell (L + 4) none)
  (hnext : ∀ h' tk t, LawSt s L aS zs m h' → h'.IsCell (L + 4) (some (.str (textOf zs) t)) → wpAny (model prog w) A (execs ((lawBody w).drop 3) (lawEnv w L)) Q E { s with heap := h', toks := tk }) :
  wpAny (model prog w) A (execs ((lawBody w).drop 2) (lawEnv w L)) Q E { s with heap := h, toks := tk } := by
  refine wpAny_execs_cons ?_
  refine wpAny_Assign_Name ?_ ?hs
  case hs => exact swaps_Call _ _ _ _ _ _ _
  refine MethodCall_ ?_
  refine Constant_str (GM.join ?_)
  refine callWith_method1 (args_cons ?_)
  refine comp_src false hh (by rfl) (fun _ => by rfl) (fun _ => by rfl) (by rfl) (by decide) (by rfl) (stable_str fun i => signOf (zs.getD i 0)) (fun _ => by rfl) ?_
  refine Subscript_ ?_
  refine NameIs.ev (.inr ⟨.inl rfl, _, rfl, S.sums⟩) ?_
  refine wpAny_Slice (evalPart_none_step (evalPart_some_step ?_))
  refine wpAny_Constant_int (evalPart_none_step ?_)
  obtain ⟨vz, hvz, hpz⟩ := S.list
  have hzl := hvz.length
  have hsl := S.len
  refine slice_list hpz.isList (by omega) .none (.int _ _) .none (by decide) ?_
  intro b h₅ hb hlb hg₅
  dsimp only at hlb hg₅ hb ⊢
  rw [show (some 5 : Option Int) = some ((5 : Nat) : Int) from rfl, slicePick_upto'] at hlb
  refine ⟨_, _, Src.list hlb.isList, by simp; omega, ?_, ?_⟩
  · intro C' i v s₆ E' hi hv hN hg₆
    have hi5 : i < 5 := by simp at hi; omega
    obtain ⟨t0, ht0⟩ := ints_get hvz (j := i) (by omega)
    have hv' : v = .int (zs.getD i 0) t0 := by
      rw [List.getElem?_take_of_lt hi5] at hv
      rw [ht0] at hv
      exact (Option.some.inj hv).symm
    subst hv'
    refine Subscript_ ?_
    refine Constant_str ?_
    refine wpAny_BinOp (NameIs.ev hN ?_)
    refine wpAny_Constant_int (mod_int' (by decide) ?_)
    have hm0 : 0 ≤ Int.fmod (zs.getD i 0) 5 := Int.fmod_nonneg_of_pos _ (by decide)
    have hm1 : Int.fmod (zs.getD i 0) 5 < 5 := Int.fmod_lt_of_pos _ (by decide)
    refine item_str (by exact fitsSsize_of (N := 9223372036854775808) (by omega) (by omega) (Int.le_refl _)) (by have : (Str.ofString "aab\n.").length = 5 := rfl; omega) (by have : (Str.ofString "aab\n.").length = 5 := rfl; omega) ?_
    intro _
    exact ⟨⟨_, rfl⟩, _, _, rfl, grow_refl _⟩
  · intro D h₆ tk₆ ys hD hl₆ hlen hys hg₆
    have hlen5 : ys.length = 5 := by rw [hlen]; simp; omega
    have hst := strs_of hlen5 hys
    refine args_nil ?_
    dsimp only [List.cons_append, List.nil_append]
    refine join_listW hl₆.isList (by simpa using hst) (by decide) ?_ ?_
    · simp only [List.length_map, List.length_range, List.map_map, Function.comp_def, len_sign]
      decide
    intro t' k'
    dsimp only at hg₆ ⊢
    have hg := grow_trans hg₅ hg₆
    have S₆ := S.keep hg
    refine wpAny_storeName_cell (by rfl) (by rfl) (by rfl) (htx.keeps hg) fun h₇ htx₇ hs₇ => ?_
    exact hnext h₇ _ t' (S₆.cellset hs₇) htx₇
end
end Mine

namespace Mine
open PySem.Builtin PySem.Builtin.Str PySem.Calls

theorem cps_join : ∀ ys : List Str, (Txt.join Str.empty ys).cps.toList = (ys.map (·.cps.toList)).flatten := by
  intro ys
  unfold Txt.join
  rw [StrLaws.glued_eq_join]
  induction ys with
  | nil => rfl
  | cons a r ih =>
    cases r with
    | nil => simp [Str.join]
    | cons b r =>
      simp only [Str.join, Str.cps_append, Array.toList_append, ih, List.map_cons, List.flatten_cons]
      rw [show Str.empty.cps.toList = [] from rfl, List.append_nil]
theorem len_toList (x : Str) : x.length = x.cps.toList.length := by simp [Str.length]
theorem len_join (ys : List Str) : (Txt.join Str.empty ys).length = (ys.map (·.length)).sum := by
  rw [len_toList, cps_join, List.length_flatten, List.map_map]
  congr 1
theorem len_text (zs : List Int) : (textOf zs).length = 5 := by
  unfold textOf
  rw [len_join]
  simp only [List.map_map, Function.comp_def, len_sign]
  decide

theorem swaps_true {elt gens scope pos x px l} {env : Env} (h1 : (env.blockKind == .function) = true) (h2 : (env.kindOf x == some .local) = true) (h3 : (px.line == (Expr.ListComp elt gens scope pos).pos.line) = true)
    (h4 : (scope.names.any fun (n, k) => n == x && (k == .local || k == .cell)) = false) : swapsWith (.ListComp elt gens scope pos) (some (.Name x px)) l env = pure true := by
  have e : swapsWith (.ListComp elt gens scope pos) (some (.Name x px)) l env = pure (env.blockKind == .function && env.kindOf x == some .local && px.line == (Expr.ListComp elt gens scope pos).pos.line
      && !(scope.names.any fun (n, k) => n == x && (k == .local || k == .cell))) := rfl
  rw [e, h1, h2, h3, h4]; rfl

def partsOf (zs : List Int) : List Str := (List.range 5).map fun (k : Nat) => partOf (Txt.item (textOf zs) (k : Int)) (zs.getD (5 + k) 0)

section
variable {prog : Program} {w : World} {A : Around} {s : Shared} {E : Value → Shared → Prop} {Q : Flow → Shared → Prop} {L aS : Addr} {zs : List Int} {m : Str → Option Value} {h : Heap} {tk : Nat}

set_option maxHeartbeats 8000000 in
theorem lawC (C : Cx w s.heap) (hroom : A.depth < recursionLimit) (hh : A.handled = none) {t : Tok} (S : LawSt s L aS zs m h) (htx : h.IsCell (L + 4) (some (.str (textOf zs) t)))
  (hnext : ∀ h' tk m' aP, LawSt s L aS zs m' h' → h'.IsCell (L + 4) (some (.str (textOf zs) t)) → m' "parts" = some (.ref aP) → L < aP → StrList h' aP (partsOf zs) →
    wpAny (model prog w) A (execs ((lawBody w).drop 4) (lawEnv w L)) Q E { s with heap := h', toks := tk }) :
  wpAny (model prog w) A (execs ((lawBody w).drop 3) (lawEnv w L)) Q E { s with heap := h, toks := tk } := by
  refine wpAny_execs_cons ?_
  refine comp_srcA false hh ?hsw (by rfl) (by rfl) (by rfl) (fun _ => by rfl) (fun _ => by rfl) (by rfl) (by decide) (by rfl) (stable_str fun k => partOf (Txt.item (textOf zs) (k : Int)) (zs.getD (5 + k) 0)) (fun _ => by rfl) ?_
  case hsw => exact swaps_true (by rfl) (by rfl) (by rfl) (by rfl)
  refine Call_ (nameB (S.cx C) (by rfl) boot_range (by decide) ?_)
  refine callWith_type1 (args_cons (wpAny_Constant_int ?_))
  refine args_nil (call_range_1 ?_)
  dsimp only
  refine ⟨_, _, m, Src.range (n := 5) (Heap.get?_push_size _ rfl) (by decide) (by decide), by omega, S.ns.keeps (grow_push _ _), ?_, ?_⟩
  · rintro C' k v s₄ E' hk ⟨tk, rfl⟩ hN hg₄
    replace hg₄ := grow_trans (grow_push _ _) hg₄
    rw [Int.zero_add] at hN
    have C₄ := (S.cx C).keeps hg₄
    have hlt := len_text zs
    have hzl := S.len
    refine Call_ (nameK C₄ (by rfl) ?_)
    refine callWith_K (K := KK w) C₄.1 (by rfl) (args_cons (Subscript_ ?_))
    refine NameIs.ev (.inr ⟨.inl rfl, _, rfl, htx.keeps hg₄⟩) ?_
    refine NameIs.ev hN ?_
    refine item_str (by exact fitsSsize_of (N := 9223372036854775808) (by omega) (by omega) (Int.le_refl _)) (by omega) (by omega) ?_
    intro _
    refine args_cons (Subscript_ ?_)
    refine NameIs.ev (.inr ⟨.inl rfl, _, rfl, S.sums.keeps hg₄⟩) ?_
    refine wpAny_BinOp (wpAny_Constant_int ?_)
    refine NameIs.ev hN (add_int ?_)
    obtain ⟨vz, hvz, hpz⟩ := S.list
    obtain ⟨t0, ht0⟩ := ints_get hvz (j := 5 + k) (by omega)
    have e5 : ((5 : Int) + (k : Int)).toNat = 5 + k := by omega
    refine item_list (hpz.isList.at fun o e => hg₄ _ _ e) (by omega) (by omega) (x := .int (zs.getD (5 + k) 0) t0) (by rw [e5]; simpa using ht0) ?_
    refine args_nil ⟨C₄.1, ?_⟩
    dsimp only [List.nil_append]
    refine part_spec (by exact C₄) (by exact hroom) (by exact hh) ?_
    rintro tp s₅ ⟨h₅, tk₅, rfl, hk₅⟩
    exact ⟨⟨_, rfl⟩, h₅, tk₅, rfl, hk₅⟩
  · intro D h₆ tk₆ ys hD hn₆ hl₆ hlen hys hx₆
    have hst := strs_of hlen hys
    (try dsimp only)
    have hx : Heap.ExtBut L h h₆ := fun b o hb e => hx₆ b o hb (grow_push _ _ _ _ e)
    have hLlt : L < h.objs.size := Heap.lt_size S.ns.choose_spec.choose_spec.choose_spec.1
    have hLD : L < D := Nat.lt_of_lt_of_le hLlt (Nat.le_trans (by rw [Heap.size_push]; exact Nat.le_succ _) hD)
    refine hnext h₆ _ _ D (S.set hn₆ hx) ?_ (by rfl) hLD ⟨ys, hst, hl₆⟩
    obtain ⟨o, e, d⟩ := htx
    exact ⟨o, hx _ _ (by simp) e, d⟩
end
end Mine

namespace Mine
open PySem.Builtin PySem.Builtin.Str PySem.Calls

theorem StrList.at {h h' : Heap} {a : Addr} {ys : List Str} (x : StrList h a ys) (k : ∀ o, h.get? a = some o → h'.get? a = some o) : StrList h' a ys := let ⟨vs, h1, h2⟩ := x; ⟨vs, h1, h2.at k⟩
/-- a list of lists of texts, all beyond L -/
def StrLists (L : Addr) (h : Heap) (aQ : Addr) (pss : List (List Str)) : Prop :=
  L < aQ ∧ ∃ vs : List Value, h.PlainList aQ vs.toArray ∧ vs.length = pss.length ∧ ∀ (i : Nat) y, vs[i]? = some y → ∃ b, L < b ∧ y = .ref b ∧ StrList h b (pss.getD i [])
theorem StrLists.ext {L aQ : Addr} {h h' : Heap} {pss : List (List Str)} (x : StrLists L h aQ pss) (k : Heap.ExtBut L h h') : StrLists L h' aQ pss :=
  let ⟨h1, vs, h2, h3, h4⟩ := x
  ⟨h1, vs, h2.at fun o e => k _ o (Nat.ne_of_gt h1) e, h3, fun i y hy => let ⟨b, g1, g2, g3⟩ := h4 i y hy; ⟨b, g1, g2, g3.at fun o e => k _ o (Nat.ne_of_gt g1) e⟩⟩
theorem ext_of_grow {L : Addr} {h h' : Heap} (g : Grow h h') : Heap.ExtBut L h h' := fun b o _ e => g b o e

theorem swaps_Bin (f a k p t l) (env : Env) : swapsWith (.BinOp f a k p) t l env = pure false := rfl

section
variable {prog : Program} {w : World} {A : Around} {s : Shared} {E : Value → Shared → Prop} {Q : Flow → Shared → Prop} {L aS : Addr} {zs : List Int} {m : Str → Option Value} {h : Heap} {tk : Nat}

theorem law_store {S' : Shared} {x : Str} {v : Value} {Q : Unit → Shared → Prop} (S : LawSt s L aS zs m S'.heap) (hx : (lawEnv w L).kindOf x = some .local)
    (hq : ∀ h', LawSt s L aS zs (fun y => if y = x then some v else m y) h' → Heap.ExtBut L S'.heap h' → Q () { S' with heap := h', toks := S'.toks + 1 }) :
    wpAny (model prog w) A (storeName (lawEnv w L) x v) Q E S' :=
  wpAny_storeName_local hx S.ns (fun h' hn hs => hq h' (S.set hn hs.extBut) hs.extBut) (by rfl)
theorem LawSt.name {x : Str} {v : Value} (S : LawSt s L aS zs m h) (hx : (lawEnv w L).kindOf x = some .local) (hv : m x = some v) : NameIs (lawEnv w L) h x v := .inl ⟨hx, m, S.ns, hv⟩

set_option maxHeartbeats 8000000 in
theorem lawD (C : Cx w s.heap) (hh : A.handled = none) {t : Tok} {aP : Addr} {ps : List Str} (S : LawSt s L aS zs m h) (htx : h.IsCell (L + 4) (some (.str (textOf zs) t))) (hmp : m "parts" = some (.ref aP)) (haP : L < aP) (hP : StrList h aP ps) (hpl : ps.length = 5)
  (hnext : ∀ h' tk m' aQ f g, LawSt s L aS zs m' h' → h'.IsCell (L + 4) (some (.str (textOf zs) t)) → m' "parts" = some (.ref aP) → StrList h' aP ps → m' "pieces" = some (.ref aQ) → f ≤ 2 → 3 ≤ g → g ≤ 5 →
    StrLists L h' aQ [ps.take f, (ps.drop f).take (g - f), ps.drop g] →
    wpAny (model prog w) A (execs ((lawBody w).drop 7) (lawEnv w L)) Q E { s with heap := h', toks := tk }) :
  wpAny (model prog w) A (execs ((lawBody w).drop 4) (lawEnv w L)) Q E { s with heap := h, toks := tk } := by
  -- first
  refine wpAny_execs_cons ?_
  refine wpAny_Assign_Name ?_ ?hs
  case hs => exact swaps_BinOp _ _ _ _ _ _ _
  refine wpAny_BinOp (Call_ (nameB (S.cx C) (by rfl) Boot.sum (by decide) ?_))
  refine callWith_builtin1 (args_cons ?_)
  refine NameIs.ev (.inr ⟨.inl rfl, _, rfl, S.sums⟩) ?_
  obtain ⟨vz, hvz, hpz⟩ := S.list
  refine args_nil (sum_ev hh hpz.isList hvz ?_)
  intro z₁ t₁ h₁ tk₁ hg₁
  refine wpAny_Constant_int (mod_int' (by decide) ?_)
  have S₁ := S.keep hg₁
  clear hvz hpz
  refine law_store S₁ (by rfl) ?_
  intro h₂ S₂ hx₂
  have hf0 : 0 ≤ Int.fmod z₁ 3 := Int.fmod_nonneg_of_pos _ (by decide)
  have hf1 : Int.fmod z₁ 3 < 3 := Int.fmod_lt_of_pos _ (by decide)
  have hX₂ : Heap.ExtBut L h h₂ := fun b o hb e => hx₂ b o hb (hg₁ b o e)
  generalize Int.fmod z₁ 3 = fz at S₂ hf0 hf1
  obtain ⟨f, rfl⟩ := Int.eq_ofNat_of_zero_le hf0
  -- second
  dsimp only
  refine wpAny_execs_cons ?_
  refine wpAny_Assign_Name ?_ ?hs
  case hs => exact swaps_BinOp _ _ _ _ _ _ _
  refine wpAny_BinOp (wpAny_Constant_int ?_)
  refine wpAny_BinOp (wpAny_BinOp ?_)
  refine Call_ (nameB (S₂.cx C) (by rfl) Boot.sum (by decide) ?_)
  refine callWith_builtin1 (args_cons ?_)
  refine NameIs.ev (.inr ⟨.inl rfl, _, rfl, S₂.sums⟩) ?_
  obtain ⟨vz, hvz, hpz⟩ := S₂.list
  refine args_nil (sum_ev hh hpz.isList hvz ?_)
  intro z₂ t₂ h₃ tk₃ hg₃
  refine wpAny_Constant_int (floordiv_int (by decide) ?_ (.inl (PyProof.noPylong_small (by decide))))
  refine wpAny_Constant_int (mod_int' (by decide) ?_)
  refine add_int ?_
  have S₃ := S₂.keep hg₃
  clear hvz hpz
  refine law_store S₃ (by rfl) ?_
  intro h₄ S₄ hx₄
  have hX₄ : Heap.ExtBut L h h₄ := fun b o hb e => hx₄ b o hb (hg₃ b o (hX₂ b o hb e))
  have hq0 : 0 ≤ Int.fmod (Int.fdiv z₂ 3) 3 := Int.fmod_nonneg_of_pos _ (by decide)
  have hq1 : Int.fmod (Int.fdiv z₂ 3) 3 < 3 := Int.fmod_lt_of_pos _ (by decide)
  generalize Int.fmod (Int.fdiv z₂ 3) 3 = gz at S₄ hq0 hq1
  obtain ⟨q, rfl⟩ := Int.eq_ofNat_of_zero_le hq0
  obtain ⟨g, hg3⟩ : ∃ g, 3 + q = g := ⟨_, rfl⟩
  have e3 : ((3 : Int) + ((q : Nat) : Int)) = ((g : Nat) : Int) := by omega
  rw [e3] at S₄
  have hg1 : 3 ≤ g := by omega
  have hg2 : g ≤ 5 := by omega
  have hf2 : f ≤ 2 := by omega
  clear S S₁ S₂ S₃ hx₂ hx₄ hX₂ hg₁ hg₃ hg3 hq1 hq0 hf1 hf0
  have hP₄ : StrList h₄ aP ps := hP.at fun o e => hX₄ _ o (Nat.ne_of_gt haP) e
  have htx₄ : h₄.IsCell (L + 4) (some (.str (textOf zs) t)) := let ⟨o, e, d⟩ := htx; ⟨o, hX₄ _ _ (by simp) e, d⟩
  -- pieces
  dsimp only
  refine wpAny_execs_cons ?_
  refine wpAny_Assign_Name ?_ ?hs
  case hs => exact swaps_List _ _ _ _ _
  refine List_ ?_
  obtain ⟨vp, hvp, hpp⟩ := id hP₄
  have hvl : vp.length = 5 := by rw [hvp.len_eq, hpl]
  have hLlt : L < h₄.objs.size := Heap.lt_size S₄.ns.choose_spec.choose_spec.choose_spec.1
  refine args_cons (Subscript_ ?_)
  refine NameIs.ev (LawSt.name S₄ (by rfl) hmp) ?_
  refine wpAny_Slice (evalPart_none_step (evalPart_some_step ?_))
  refine NameIs.ev (LawSt.name S₄ (by rfl) (by rfl)) ?_
  refine evalPart_none_step (slice_list hpp.isList (by omega) .none (.int _ _) .none (by decide) ?_)
  intro a₁ h₅ ha₁ hl₁ hg₅
  dsimp only at hl₁ hg₅ ha₁ ⊢
  rw [slicePick_upto'] at hl₁
  have S₅ := S₄.keep hg₅
  have hp₅ := hpp.isList.at fun o e => hg₅ _ _ e
  refine args_cons (Subscript_ ?_)
  refine NameIs.ev (LawSt.name S₅ (by rfl) hmp) ?_
  refine wpAny_Slice (evalPart_some_step ?_)
  refine NameIs.ev (LawSt.name S₅ (by rfl) (by rfl)) ?_
  refine evalPart_some_step ?_
  refine NameIs.ev (LawSt.name S₅ (by rfl) (by rfl)) ?_
  refine evalPart_none_step (slice_list hp₅ (by omega) (.int _ _) (.int _ _) .none (by decide) ?_)
  intro a₂ h₆ ha₂ hl₂ hg₆
  dsimp only at hl₂ hg₆ ha₂ ⊢
  rw [slicePick_run _ _ _ (by rw [List.size_toArray]; omega) (by omega)] at hl₂
  have S₆ := S₅.keep hg₆
  have hp₆ := hp₅.at fun o e => hg₆ _ _ e
  refine args_cons (Subscript_ ?_)
  refine NameIs.ev (LawSt.name S₆ (by rfl) hmp) ?_
  refine wpAny_Slice (evalPart_some_step ?_)
  refine NameIs.ev (LawSt.name S₆ (by rfl) (by rfl)) ?_
  refine evalPart_none_step (evalPart_none_step (slice_list hp₆ (by omega) (.int _ _) .none .none (by decide) ?_))
  intro a₃ h₇ ha₃ hl₃ hg₇
  dsimp only at hl₃ hg₇ ha₃ ⊢
  rw [slicePick_from'] at hl₃
  have S₇ := S₆.keep hg₇
  refine args_nil ?_
  have hL₅ : L < h₅.objs.size := Heap.lt_size S₅.ns.choose_spec.choose_spec.choose_spec.1
  have hL₆ : L < h₆.objs.size := Heap.lt_size S₆.ns.choose_spec.choose_spec.choose_spec.1
  have hL₇ : L < h₇.objs.size := Heap.lt_size S₇.ns.choose_spec.choose_spec.choose_spec.1
  refine newList_ev (by simp) fun h₈ hl₈ hg₈ => ?_
  dsimp only at hl₈ hg₈ ⊢
  have S₈ := S₇.keep hg₈
  refine law_store S₈ (by rfl) ?_
  intro h₉ S₉ hx₉
  have hgr : Grow h₄ h₈ := grow_trans hg₅ (grow_trans hg₆ (grow_trans hg₇ hg₈))
  have hx49 : Heap.ExtBut L h₄ h₉ := fun b o hb e => hx₉ b o hb (hgr b o e)
  refine hnext h₉ _ _ h₇.objs.size f g S₉ ?_ hmp ?_ (by rfl) hf2 hg1 hg2 ⟨hL₇, [.ref a₁, .ref a₂, .ref a₃], ?_, rfl, ?_⟩
  · exact let ⟨o, e, d⟩ := htx₄; ⟨o, hx49 _ _ (by simp) e, d⟩
  · exact hP₄.at fun o e => hx49 _ o (Nat.ne_of_gt haP) e
  · exact hl₈.at fun o e => hx₉ _ o (Nat.ne_of_gt hL₇) e
  · intro i y hy
    have up : ∀ (a : Addr) (hx : Heap) (hh : L < a) (g' : Grow hx h₈) (vs' : List Value) (ys' : List Str), StrsAre vs' ys' → hx.PlainList a vs'.toArray → StrList h₉ a ys' := fun a hx hLa g' vs' ys' q1 q2 => ⟨vs', q1, (q2.at fun o e => g' _ _ e).at fun o e => hx₉ _ o (Nat.ne_of_gt hLa) e⟩
    match i, hy with
    | 0, hy => cases hy; exact ⟨a₁, Nat.lt_of_lt_of_le hLlt ha₁, rfl, up a₁ h₅ (Nat.lt_of_lt_of_le hLlt ha₁) (grow_trans hg₆ (grow_trans hg₇ hg₈)) _ _ (hvp.take' f) (by simpa using hl₁)⟩
    | 1, hy => cases hy; exact ⟨a₂, Nat.lt_of_lt_of_le hL₅ ha₂, rfl, up a₂ h₆ (Nat.lt_of_lt_of_le hL₅ ha₂) (grow_trans hg₇ hg₈) _ _ ((hvp.drop' f).take' (g - f)) (by simpa using hl₂)⟩
    | 2, hy => cases hy; exact ⟨a₃, Nat.lt_of_lt_of_le hL₆ ha₃, rfl, up a₃ h₇ (Nat.lt_of_lt_of_le hL₆ ha₃) hg₈ _ _ (hvp.drop' g) (by simpa using hl₃)⟩
    | n + 3, hy => simp at hy
end
end Mine

namespace Mine
open PySem.Builtin PySem.Builtin.Str PySem.Calls

/-- a list of tables, all beyond L -/
def TabList (L : Addr) (h : Heap) (a : Addr) (Ts : List (List (List Bool))) : Prop := L < a ∧ ∃ vs : List Value, h.PlainList a vs.toArray ∧ TabsAre (L + 1) h vs Ts
theorem TabsAre.ext {L : Addr} {h h' : Heap} {vs : List Value} {Ts : List (List (List Bool))} (x : TabsAre (L + 1) h vs Ts) (k : Heap.ExtBut L h h') : TabsAre (L + 1) h' vs Ts :=
  ⟨x.1, fun i y hy => (x.2 i y hy).up fun b o hb e => k b o (Nat.ne_of_gt hb) e⟩
theorem TabList.ext {L a : Addr} {h h' : Heap} {Ts : List (List (List Bool))} (x : TabList L h a Ts) (k : Heap.ExtBut L h h') : TabList L h' a Ts :=
  let ⟨h1, vs, h2, h3⟩ := x
  ⟨h1, vs, h2.at fun o e => k _ o (Nat.ne_of_gt h1) e, h3.ext k⟩
theorem TabIs.ext {L : Addr} {h h' : Heap} {v : Value} {T : List (List Bool)} (x : TabIs (L + 1) h v T) (k : Heap.ExtBut L h h') : TabIs (L + 1) h' v T := x.up fun b o hb e => k b o (Nat.ne_of_gt hb) e

section
variable {prog : Program} {w : World} {A : Around} {s : Shared} {E : Value → Shared → Prop} {Q : Flow → Shared → Prop} {L aS : Addr} {zs : List Int} {m : Str → Option Value} {h : Heap} {tk : Nat}

/-- ''.join(xs), xs a list of texts of the frame's -/
theorem join_ev {S' : Shared} {D : Addr} {ys : List Str} {t : Tok} {Q : Value → Shared → Prop} (hl : StrList S'.heap D ys) (hw : (ys.map (·.length)).sum ≤ 900) (hn : ys.length ≤ 100)
    (hq : ∀ t' k, Q (.str (Txt.join Str.empty ys) t') { S' with toks := k }) : wpAny (model prog w) A (call (.builtin "str.join") [.str (Str.ofString "") t, .ref D]) Q E S' := by
  obtain ⟨vs, hv, hp⟩ := hl
  exact join_listW hp.isList (by simpa using hv) (by decide) (by omega) fun t' k => hq t' k

set_option maxHeartbeats 8000000 in
theorem lawE (C : Cx w s.heap) (hroom : A.depth + 1 < recursionLimit) (hh : A.handled = none) {t : Tok} {aP aQ : Addr} {ps : List Str} {pss : List (List Str)} (S : LawSt s L aS zs m h) (htx : h.IsCell (L + 4) (some (.str (textOf zs) t))) (hmp : m "parts" = some (.ref aP)) (haP : L < aP) (hP : StrList h aP ps)
  (hmq : m "pieces" = some (.ref aQ)) (hPs : StrLists L h aQ pss) (hpw : (ps.map (·.length)).sum ≤ 900) (hpn : ps.length ≤ 100) (hqn : pss.length ≤ 100) (hqw : ∀ q ∈ pss, (q.map (·.length)).sum ≤ 900 ∧ q.length ≤ 100)
  (hnext : ∀ h' tk m' vw aT, LawSt s L aS zs m' h' → h'.IsCell (L + 4) (some (.str (textOf zs) t)) → m' "parts" = some (.ref aP) → StrList h' aP ps → m' "whole" = some vw → TabIs (L + 1) h' vw (toldT (Txt.join Str.empty ps) (textOf zs)) →
    m' "told" = some (.ref aT) → TabList L h' aT (pss.map fun q => toldT (Txt.join Str.empty q) (textOf zs)) →
    wpAny (model prog w) A (execs ((lawBody w).drop 9) (lawEnv w L)) Q E { s with heap := h', toks := tk }) :
  wpAny (model prog w) A (execs ((lawBody w).drop 7) (lawEnv w L)) Q E { s with heap := h, toks := tk } := by
  have hlt := len_text zs
  -- whole
  refine wpAny_execs_cons ?_
  refine wpAny_Assign_Name ?_ ?hs
  case hs => exact swaps_Call _ _ _ _ _ _ _
  refine Call_ (nameK (S.cx C) (by rfl) ?_)
  refine callWith_K (K := KK w) (S.cx C).1 (by rfl) (args_cons ?_)
  refine MethodCall_ ?_
  refine Constant_str (GM.join ?_)
  refine callWith_method1 (args_cons ?_)
  refine NameIs.ev (LawSt.name S (by rfl) hmp) ?_
  refine args_nil ?_
  dsimp only [List.cons_append, List.nil_append]
  refine join_ev hP hpw hpn ?_
  intro t₁ k₁
  refine args_cons ?_
  refine NameIs.ev (.inr ⟨.inl rfl, _, rfl, htx⟩) ?_
  refine args_nil ⟨(S.cx C).1, ?_⟩
  dsimp only [List.nil_append]
  refine told_spec (by exact S.cx C) (by exact hroom) hh (by rw [len_join]; exact hpw) (by omega) ?_
  rintro vw s₁ ⟨h₁, tk₁, rfl, hg₁⟩ hW
  dsimp only at hW hg₁ ⊢
  have S₁ := S.keep hg₁
  refine law_store S₁ (by rfl) ?_
  intro h₂ S₂ hx₂
  have hX₂ : Heap.ExtBut L h h₂ := fun b o hb e => hx₂ b o hb (hg₁ b o e)
  have hLlt : L < h.objs.size := Heap.lt_size S.ns.choose_spec.choose_spec.choose_spec.1
  have hW₂ : TabIs (L + 1) h₂ vw _ := (hW.down hLlt).ext hx₂
  have htx₂ : h₂.IsCell (L + 4) (some (.str (textOf zs) t)) := let ⟨o, e, d⟩ := htx; ⟨o, hX₂ _ _ (by simp) e, d⟩
  have hP₂ : StrList h₂ aP ps := hP.at fun o e => hX₂ _ o (Nat.ne_of_gt haP) e
  have hPs₂ := hPs.ext hX₂
  clear hW hx₂ hX₂ hP hPs htx S₁
  -- told
  dsimp only
  refine wpAny_execs_cons ?_
  obtain ⟨haQ, vq, hpq, hvq, hrows⟩ := id hPs₂
  refine comp_srcA false hh ?hsw (by rfl) (by rfl) (by rfl) (fun _ => by rfl) (fun _ => by rfl) (by rfl) (by decide) (by rfl) (stable_tab fun i => toldT (Txt.join Str.empty (pss.getD i [])) (textOf zs)) (fun _ => by rfl) ?_
  case hsw => exact swaps_true (by rfl) (by rfl) (by rfl) (by rfl)
  refine NameIs.ev (LawSt.name S₂ (by rfl) hmq) ?_
  refine ⟨_, _, _, Src.list hpq.isList, by omega, S₂.ns, ?_, ?_⟩
  · intro C' i v s₄ E' hi hv hN hg₄
    obtain ⟨b, hb, rfl, hsb⟩ := hrows i v hv
    have C₄ := (S₂.cx C).keeps hg₄
    have hpsi : pss.getD i [] ∈ pss := by
      have hi' : i < pss.length := by omega
      rw [List.getD_eq_getElem?_getD, List.getElem?_eq_getElem hi']
      exact List.getElem_mem hi'
    refine Call_ (nameK C₄ (by rfl) ?_)
    refine callWith_K (K := KK w) C₄.1 (by rfl) (args_cons ?_)
    refine MethodCall_ ?_
    refine Constant_str (GM.join ?_)
    refine callWith_method1 (args_cons ?_)
    refine NameIs.ev hN ?_
    refine args_nil ?_
    dsimp only [List.cons_append, List.nil_append]
    refine join_ev (by exact hsb.grow hg₄) (hqw _ hpsi).1 (hqw _ hpsi).2 ?_
    intro t₅ k₅
    refine args_cons ?_
    refine NameIs.ev (.inr ⟨.inl rfl, _, rfl, htx₂.keeps hg₄⟩) ?_
    refine args_nil ⟨C₄.1, ?_⟩
    dsimp only [List.nil_append]
    refine told_spec (by exact C₄) (by exact hroom) hh (by rw [len_join]; exact (hqw _ hpsi).1) (by omega) ?_
    rintro vt s₆ ⟨h₆, tk₆, rfl, hg₆⟩ hT
    exact ⟨hT, h₆, tk₆, rfl, hg₆⟩
  · intro D h₆ tk₆ ys hD hn₆ hl₆ hlen hys hx₆
    (try dsimp only)
    have hL₂ : L < h₂.objs.size := Heap.lt_size S₂.ns.choose_spec.choose_spec.choose_spec.1
    refine hnext h₆ _ _ vw D (S₂.set hn₆ hx₆) ?_ hmp ?_ (by rfl) (hW₂.ext hx₆) (by rfl) ⟨Nat.lt_of_lt_of_le hL₂ hD, ys, hl₆, ?_, ?_⟩
    · exact let ⟨o, e, d⟩ := htx₂; ⟨o, hx₆ _ _ (by show L + 4 ≠ L; simp) e, d⟩
    · exact hP₂.at fun o e => hx₆ _ o (Nat.ne_of_gt haP) e
    · rw [hlen, hvq]; simp
    · intro i y hy
      have h1 := (hys i y hy).down (show L + 1 ≤ h₂.objs.size from hL₂)
      have hi : i < pss.length := by
        obtain ⟨h2, _⟩ := List.getElem?_eq_some_iff.mp hy; omega
      rw [List.getD_eq_getElem?_getD, List.getElem?_map, List.getElem?_eq_getElem hi]
      rw [List.getD_eq_getElem?_getD, List.getElem?_eq_getElem hi] at h1
      exact h1
end
end Mine

namespace Mine
open PySem.Builtin PySem.Builtin.Str PySem.Calls

def rowD (bs : List Bool) : PyData := .list (bs.map .bool)
def tabD (T : List (List Bool)) : PyData := .list (T.map rowD)
theorem row_reads {h : Heap} : ∀ bs : List Bool, ReadsAll h (bs.map Value.bool) (bs.map PyData.bool) []
  | [] => .nil
  | b :: r => .cons (as := []) (.bool b) (row_reads r)
theorem RowIs.reads {lo : Nat} {h : Heap} {v : Value} {bs : List Bool} (x : RowIs lo h v bs) : ∃ as, Reads h v (rowD bs) as := by
  obtain ⟨a, _, rfl, n, hp⟩ := x
  exact ⟨_, .list hp rfl rfl (by simpa using row_reads bs)⟩
theorem tab_reads {lo : Nat} {h : Heap} : ∀ (vs : List Value) (T : List (List Bool)), vs.length = T.length → (∀ (i : Nat) y, vs[i]? = some y → RowIs lo h y (T.getD i [])) → ∃ as, ReadsAll h vs (T.map rowD) as
  | [], [], _, _ => ⟨_, .nil⟩
  | [], _ :: _, h, _ => by simp at h
  | _ :: _, [], h, _ => by simp at h
  | v :: vs, r :: T, hl, hr => by
    obtain ⟨as, h1⟩ := (hr 0 v rfl).reads
    obtain ⟨bs, h2⟩ := tab_reads vs T (by simpa using hl) fun i y hy => by
      have := hr (i + 1) y hy
      simpa using this
    exact ⟨_, .cons (by simpa using h1) h2⟩
theorem TabIs.reads {lo : Nat} {h : Heap} {v : Value} {T : List (List Bool)} (x : TabIs lo h v T) : ∃ as, Reads h v (tabD T) as := by
  obtain ⟨a, vs, _, rfl, ⟨n, hp⟩, hl, hr⟩ := x
  obtain ⟨as, h2⟩ := tab_reads vs T hl hr
  exact ⟨_, .list hp rfl rfl (by simpa using h2)⟩

theorem row_lay : ∀ bs : List Bool, PyData.canLayAll0 (bs.map PyData.bool) = true ∧ PyData.depthAll (bs.map PyData.bool) = 0 ∧ PyData.weightAll (bs.map PyData.bool) = bs.length
  | [] => ⟨rfl, rfl, rfl⟩
  | b :: r => by
    obtain ⟨h1, h2, h3⟩ := row_lay r
    refine ⟨?_, ?_, ?_⟩
    · simp [PyData.canLayAll0, PyData.canLay0, h1]
    · simp [PyData.depthAll, PyData.depth, h2]
    · simp [PyData.weightAll, PyData.weight, h3]; omega
theorem tab_lay : ∀ T : List (List Bool), (∀ r ∈ T, r.length ≤ 900) → PyData.canLayAll0 (T.map rowD) = true ∧ PyData.depthAll (T.map rowD) ≤ 1 ∧ PyData.weightAll (T.map rowD) ≤ 901 * T.length
  | [], _ => ⟨rfl, Nat.zero_le _, Nat.le_refl _⟩
  | r :: T, h => by
    obtain ⟨h1, h2, h3⟩ := tab_lay T fun x hx => h x (List.mem_cons_of_mem _ hx)
    obtain ⟨g1, g2, g3⟩ := row_lay r
    have hr := h r List.mem_cons_self
    refine ⟨?_, ?_, ?_⟩
    · simp [PyData.canLayAll0, PyData.canLay0, rowD, h1, g1]
    · simp only [List.map_cons, PyData.depthAll, PyData.depth, rowD, g2]
      omega
    · simp only [List.map_cons, PyData.weightAll, PyData.weight, rowD, g3, List.length_cons]
      have : PyData.weightAll (T.map rowD) ≤ 901 * T.length := h3
      unfold rowD at this
      omega
theorem lay_tab {T : List (List Bool)} {n : Nat} (hS : Square n T) (hn : n ≤ 900) : (tabD T).layable0 = true := by
  have hr : ∀ r ∈ T, r.length ≤ 900 := fun r hr => by
    obtain ⟨i, hi, rfl⟩ := List.getElem_of_mem hr
    have := hS.2 i (by rw [← hS.1]; exact hi)
    rw [List.getD_eq_getElem?_getD, List.getElem?_eq_getElem hi] at this
    simp at this
    omega
  obtain ⟨h1, h2, h3⟩ := tab_lay T hr
  have hl : T.length ≤ 900 := by rw [hS.1]; exact hn
  have h4 : 901 * T.length ≤ 901 * 900 := Nat.mul_le_mul_left _ hl
  simp only [PyData.layable0, tabD, PyData.canLay0, PyData.depth, PyData.weight, h1, Bool.true_and, Bool.and_eq_true, decide_eq_true_eq]
  omega

section
variable {prog : Program} {w : World} {A : Around} {s : Shared} {E : Value → Shared → Prop}
theorem eq_tables {v v' : Value} {T : List (List Bool)} {lo lo' n : Nat} {Q : Value → Shared → Prop} (x : TabIs lo s.heap v T) (y : TabIs lo' s.heap v' T) (hS : Square n T) (hn : n ≤ 900) (hu : A.units + 64 < cLine)
    (h : Q (.bool true) s) : wpAny (model prog w) A (compareOp .Eq v v') Q E s := by
  obtain ⟨as, rx⟩ := x.reads
  obtain ⟨bs, ry⟩ := y.reads
  have hl := lay_tab hS hn
  refine eq_dataS rx ry hl hl hu ?_
  rw [PySem.SeqAt.eqv_refl _ (by simp only [PyData.layable0, Bool.and_eq_true] at hl; exact hl.1.1)]
  exact h
theorem ne_tables {v v' : Value} {T : List (List Bool)} {lo lo' n : Nat} {Q : Value → Shared → Prop} (x : TabIs lo s.heap v T) (y : TabIs lo' s.heap v' T) (hS : Square n T) (hn : n ≤ 900) (hu : A.units + 64 < cLine)
    (h : Q (.bool false) s) : wpAny (model prog w) A (compareOp .NotEq v v') Q E s := by
  obtain ⟨as, rx⟩ := x.reads
  obtain ⟨bs, ry⟩ := y.reads
  have hl := lay_tab hS hn
  refine ne_dataS rx ry hl hl hu ?_
  rw [PySem.SeqAt.eqv_refl _ (by simp only [PyData.layable0, Bool.and_eq_true] at hl; exact hl.1.1)]
  exact h
theorem ne_empty {a b : Addr} {Q : Value → Shared → Prop} (x : s.heap.PlainList a #[]) (y : s.heap.PlainList b #[]) (hu : A.units + 64 < cLine)
    (h : Q (.bool false) s) : wpAny (model prog w) A (compareOp .NotEq (.ref a) (.ref b)) Q E s := by
  obtain ⟨n, hx⟩ := x
  obtain ⟨n', hy⟩ := y
  refine ne_dataS (da := .list []) (db := .list []) (.list hx rfl rfl .nil) (.list hy rfl rfl .nil) (by decide) (by decide) hu ?_
  rw [PySem.SeqAt.eqv_refl _ (by rfl)]
  exact h
end
end Mine

namespace Mine
open PySem.Builtin PySem.Builtin.Str PySem.Calls

theorem LawSt.fr {s : Shared} {L aS : Addr} {zs : List Int} {m : Str → Option Value} {h : Heap} (S : LawSt s L aS zs m h) : Fr s.heap L h m := ⟨S.ns, S.grow, S.low⟩
theorem LawSt.lt {s : Shared} {L aS : Addr} {zs : List Int} {m : Str → Option Value} {h : Heap} (S : LawSt s L aS zs m h) : L < h.objs.size := Heap.lt_size S.ns.choose_spec.choose_spec.choose_spec.1
theorem tabs_cons {lo : Nat} {h : Heap} {v : Value} {vs : List Value} {T : List (List Bool)} {Ts : List (List (List Bool))} (x : TabIs lo h v T) (y : TabsAre lo h vs Ts) : TabsAre lo h (v :: vs) (T :: Ts) :=
  ⟨by simp [y.1], fun i z hz => by
    cases i with
    | zero => cases hz; exact x
    | succ i => exact y.2 i z (by simpa using hz)⟩

section
variable {prog : Program} {w : World} {A : Around} {s : Shared} {E : Value → Shared → Prop} {Q : Flow → Shared → Prop} {L aS : Addr} {zs : List Int} {m : Str → Option Value} {h : Heap} {tk : Nat}

theorem add_ev {S' : Shared} {l b : Addr} {vs ws : List Value} {Q : Value → Shared → Prop} (hl : S'.heap.IsList l vs.toArray) (hb : S'.heap.IsList b ws.toArray) (hsz : vs.length + ws.length ≤ 1000)
    (hq : ∀ h', h'.PlainList S'.heap.objs.size (vs ++ ws).toArray → Grow S'.heap h' → Q (.ref S'.heap.objs.size) { S' with heap := h' }) :
    wpAny (model prog w) A (binaryOp .Add (.ref l) (.ref b)) Q E S' := by
  obtain ⟨⟨cls, dd, data, sl⟩, ho, hc, n, hd⟩ := id hl
  obtain ⟨⟨cls2, dd2, data2, sl2⟩, ho2, hc2, n2, hd2⟩ := id hb
  simp only at hc hd hc2 hd2
  subst hc hd hc2 hd2
  refine concat_meets ⟨_, ho, rfl⟩ ⟨_, ho2, rfl⟩ noFill_list_add seq_list_add PySem.F.slot_list_add PySem.F.entry_list_add (PySem.F.args_list_add_2 _ _)
    (list_addW l b vs.toArray ws.toArray n n2 dd dd2 sl sl2 (by rw [sizeLine_eq]; simp only [List.size_toArray]; omega)) ⟨ho, ho2, ?_⟩
  refine hq _ ⟨0, ?_⟩ (grow_push _ _)
  rw [Heap.get?_push_size _ rfl]
  simp

set_option maxHeartbeats 8000000 in
theorem lawF (C : Cx w s.heap) (hroom : A.depth < recursionLimit) (hh : A.handled = none) (hu : A.units + 64 < cLine) {vw : Value} {aT : Addr} {W : List (List Bool)} {Ts : List (List (List Bool))} (S : LawSt s L aS zs m h)
  (hmw : m "whole" = some vw) (hW : TabIs (L + 1) h vw W) (hmt : m "told" = some (.ref aT)) (hT : TabList L h aT Ts) (hlen : ∀ U ∈ W :: Ts, U.length ≤ 900) (hTn : Ts.length ≤ 900)
  (hnext : ∀ h' tk m', LawSt s L aS zs m' h' → Heap.ExtBut L h h' → (∀ y : Str, y ≠ ("table" : Str) → m' y = m y) → wpAny (model prog w) A (execs ((lawBody w).drop 10) (lawEnv w L)) Q E { s with heap := h', toks := tk }) :
  wpAny (model prog w) A (execs ((lawBody w).drop 9) (lawEnv w L)) Q E { s with heap := h, toks := tk } := by
  obtain ⟨haT, vt, hpt, htt⟩ := hT
  have htl : vt.length = Ts.length := htt.1
  refine wpAny_execs_cons ?_
  refine wpAny_For ?_ ?hs
  case hs => intro _; rfl
  refine wpAny_BinOp (List_ ?_)
  refine args_cons ?_
  refine NameIs.ev (LawSt.name S (by rfl) hmw) ?_
  refine args_nil (newList_ev (by simp) fun h₁ hl₁ hg₁ => ?_)
  dsimp only at hl₁ hg₁ ⊢
  have S₁ := S.keep hg₁
  refine NameIs.ev (LawSt.name S₁ (by rfl) hmt) ?_
  refine add_ev (vs := [vw]) (ws := vt) hl₁.isList (hpt.isList.at fun o e => hg₁ _ _ e) (by simp; omega) ?_
  intro h₂ hp₂ hg₂
  dsimp only at hp₂ hg₂ ⊢
  have hg12 := grow_trans hg₁ hg₂
  have S₂ := S.keep hg12
  have hts : TabsAre (L + 1) h₂ (vw :: vt) (W :: Ts) := (tabs_cons hW htt).grow hg12
  have hL₁ : L < h₁.objs.size := S₁.lt
  generalize h₁.objs.size = aL at hp₂ hL₁ ⊢
  refine wpAny_pyIter_list hp₂.isList ?_
  have hIT : (h₂.push { cls := .type "list_iterator", data := .fields #[.ref aL, .int 0 0] }).IsListIter h₂.objs.size aL 0 := ⟨_, Heap.get?_push_size _ rfl, rfl, rfl⟩
  have hgp : Grow h₂ (h₂.push { cls := .type "list_iterator", data := .fields #[.ref aL, .int 0 0] }) := grow_push _ _
  dsimp only
  generalize h₂.push { cls := .type "list_iterator", data := .fields #[.ref aL, .int 0 0] } = h₃ at hIT hgp ⊢
  have hITL : h₂.objs.size ≠ L := Nat.ne_of_gt S₂.lt
  have hITn : ∀ b o, h₂.get? b = some o → b ≠ h₂.objs.size := fun b o e => Nat.ne_of_lt (Heap.lt_size e)
  generalize h₂.objs.size = IT at hIT hITL hITn ⊢
  have S₃ := S₂.keep hgp
  refine codeAny_forLoop (fun k s' => ∃ h' tk' m' i, s' = { s with heap := h', toks := tk' } ∧ LawSt s L aS zs m' h' ∧ Heap.ExtBut L h₂ h' ∧ (∀ y : Str, y ≠ ("table" : Str) → m' y = m y) ∧ h'.IsListIter IT aL i ∧ i ≤ (vw :: vt).length ∧ k = (vw :: vt).length + 1 - i) ?_ ((vw :: vt).length + 1)
    ⟨h₃, _, m, 0, rfl, S₃, ext_of_grow hgp, fun _ _ => rfl, hIT, Nat.zero_le _, rfl⟩
  rintro k s' ⟨h', tk', m', i, rfl, S', hx', hm', hit', hi, rfl⟩
  have hl' : h'.IsList aL (vw :: vt).toArray := hp₂.isList.at fun o e => hx' _ o (Nat.ne_of_gt hL₁) e
  by_cases hlt : i < (vw :: vt).length
  · refine wpAny_pyNext_list_item hit' hl' (x := (vw :: vt)[i]) (by simp [hlt]) ?_
    intro h₄ hit₄ hs₄
    dsimp only at hs₄ ⊢
    have hx₄ : Heap.ExtBut L h₂ h₄ := fun b o hb e => hs₄.extBut b o (hITn b o e) (hx' b o hb e)
    have S₄ : LawSt s L aS zs m' h₄ := by
      refine ⟨S'.ns.sameBut hs₄ (Ne.symm hITL), fun b o e => ?_, S'.low, ?_, ?_, S'.above, S'.len⟩
      · exact hs₄.extBut b o (hITn b o (S₂.grow b o e)) (S'.grow b o e)
      · obtain ⟨o, e, d⟩ := S₂.sums
        exact ⟨o, hx₄ _ _ (by simp) e, d⟩
      · exact S₂.list.at fun o e => hx₄ _ o (Nat.ne_of_gt (Nat.lt_of_le_of_lt (Nat.le_add_right L 4) S₂.above)) e
    refine wpAny_assign_Name ?_
    refine law_store S₄ (by rfl) ?_
    intro h₅ S₅ hx₅
    dsimp only at hx₅ ⊢
    have hX₅ : Heap.ExtBut L h₂ h₅ := fun b o hb e => hx₅ b o hb (hx₄ b o hb e)
    have hit₅ := hit₄.extBut hx₅ hITL
    have hTi : TabIs (L + 1) h₅ (vw :: vt)[i] ((W :: Ts).getD i []) := (hts.2 i _ (List.getElem?_eq_getElem hlt)).ext hX₅
    have hTl : ((W :: Ts).getD i []).length ≤ 900 := by
      have hi' : i < (W :: Ts).length := by rw [← hts.1]; exact hlt
      rw [List.getD_eq_getElem?_getD, List.getElem?_eq_getElem hi']
      exact hlen _ (List.getElem_mem hi')
    refine wpAny_execs_cons ?_
    refine wpAny_If ?_
    refine wpAny_isTrue_Compare1 ?_
    refine Call_ (nameK (S₅.cx C) (by rfl) ?_)
    refine callWith_K (K := KK w) (S₅.cx C).1 (by rfl) (args_cons ?_)
    refine NameIs.ev (LawSt.name S₅ (by rfl) (by rfl)) ?_
    refine args_nil ⟨(S₅.cx C).1, ?_⟩
    dsimp only [List.nil_append]
    refine odd_spec (by exact S₅.cx C) (by exact hroom) hh (by exact hTi) (by omega) ?_
    rintro D s₆ ⟨h₆, tk₆, rfl, hg₆⟩ hD
    refine List_ (args_nil (newList_ev (by simp) fun h₇ hl₇ hg₇ => ?_))
    dsimp only at hg₆ hD hl₇ hg₇ ⊢
    refine ne_empty (hD.at fun o e => hg₇ _ _ e) hl₇ hu (wpAny_truthy_bool ?_)
    rw [if_neg (by decide)]
    refine wpAny_execs_nil ?_
    dsimp only
    refine wpAny_execs_nil ?_
    have hg57 := grow_trans hg₆ hg₇
    exact ⟨(vw :: vt).length + 1 - (i + 1), by omega, h₇, _, _, i + 1, rfl, S₅.keep hg57, fun b o hb e => hg57 b o (hX₅ b o hb e), fun y hy => by rw [if_neg hy]; exact hm' y hy, hit₅.at fun o e => hg57 _ _ e, hlt, rfl⟩
  · refine wpAny_pyNext_list_end hh hit' hl' (by simp at hlt ⊢; omega) ?_
    intro h₄ hx₄
    dsimp only at hx₄ ⊢
    refine wpAny_execs_nil ?_
    have hX₄ : Heap.ExtBut L h₂ h₄ := fun b o hb e => hx₄ b o (hITn b o e) (hx' b o hb e)
    refine hnext h₄ _ m' ⟨S'.ns.extBut hx₄ (Ne.symm hITL), fun b o e => hx₄ b o (hITn b o (S₂.grow b o e)) (S'.grow b o e), S'.low, ?_, ?_, S'.above, S'.len⟩ (fun b o hb e => hX₄ b o hb (hg12 b o e)) hm'
    · obtain ⟨o, e, d⟩ := S₂.sums
      exact ⟨o, hX₄ _ _ (by simp) e, d⟩
    · exact S₂.list.at fun o e => hX₄ _ o (Nat.ne_of_gt (Nat.lt_of_le_of_lt (Nat.le_add_right L 4) S₂.above)) e
end
end Mine

namespace Mine
open PySem.Builtin PySem.Builtin.Str PySem.Calls

section
variable {prog : Program} {w : World} {A : Around} {s : Shared} {E : Value → Shared → Prop} {Q : Flow → Shared → Prop} {L aS : Addr} {zs : List Int} {m : Str → Option Value} {h : Heap} {tk : Nat}

set_option maxHeartbeats 8000000 in
theorem lawG (C : Cx w s.heap) (hroom : A.depth + 1 < recursionLimit) (hh : A.handled = none) (hu : A.units + 64 < cLine) {vw : Value} {aT : Addr} {n : Nat} {W T : List (List Bool)} {Ts : List (List (List Bool))} (S : LawSt s L aS zs m h)
  (hmw : m "whole" = some vw) (hW : TabIs (L + 1) h vw W) (hmt : m "told" = some (.ref aT)) (hT : TabList L h aT (T :: Ts)) (sW : Square n W) (sT : Square n T) (sTs : ∀ U ∈ Ts, Square n U) (hn : n ≤ 900) (hEq : Ts.foldl (joinT n) T = W)
  (hnext : ∀ h' tk, LawSt s L aS zs m h' → Grow h h' → wpAny (model prog w) A (execs ((lawBody w).drop 11) (lawEnv w L)) Q E { s with heap := h', toks := tk }) :
  wpAny (model prog w) A (execs ((lawBody w).drop 10) (lawEnv w L)) Q E { s with heap := h, toks := tk } := by
  obtain ⟨haT, vt, hpt, htt⟩ := hT
  have C₁ := S.cx C
  refine wpAny_execs_cons ?_
  refine wpAny_If ?_
  refine wpAny_isTrue_Compare1 ?_
  refine NameIs.ev (LawSt.name S (by rfl) hmw) ?_
  refine Call_ (nameK C₁ (by rfl) ?_)
  refine callWith_K (K := KK w) C₁.1 (by rfl) (args_cons ?_)
  refine nameK C₁ (by rfl) ?_
  refine args_cons ?_
  refine NameIs.ev (LawSt.name S (by rfl) hmt) ?_
  refine args_nil ⟨C₁.1, ?_⟩
  dsimp only [List.nil_append]
  refine reduce_spec2 (by exact C₁) (by exact hroom) hh (by exact hpt.isList) (by exact htt) sT sTs hn ?_
  rintro v s₁ ⟨h₁, tk₁, rfl, hg₁⟩ hV
  rw [hEq] at hV
  dsimp only at hV hg₁ ⊢
  refine ne_tables (hW.grow hg₁) hV sW hn hu (wpAny_truthy_bool ?_)
  rw [if_neg (by decide)]
  refine wpAny_execs_nil ?_
  exact hnext h₁ tk₁ (S.keep hg₁) hg₁

set_option maxHeartbeats 8000000 in
theorem lawH (C : Cx w s.heap) (hroom : A.depth + 1 < recursionLimit) (hh : A.handled = none) (hu : A.units + 64 < cLine) {t : Tok} {vw : Value} {aP : Addr} {n : Nat} {W : List (List Bool)} {p : Str} {ps : List Str} (S : LawSt s L aS zs m h) (htx : h.IsCell (L + 4) (some (.str (textOf zs) t)))
  (hmw : m "whole" = some vw) (hW : TabIs (L + 1) h vw W) (hmp : m "parts" = some (.ref aP)) (haP : L < aP) (hP : StrList h aP (p :: ps)) (hpn : ps.length ≤ 100) (sW : Square n W) (hn : n ≤ 900) (sP : ∀ q, Square n (plainT q (textOf zs)))
  (hEq : (ps.map fun q => plainT q (textOf zs)).foldl (joinT n) (plainT p (textOf zs)) = W)
  (hR : ∀ h' tk, Grow s.heap h' → Q (.ret (.bool true)) { s with heap := h', toks := tk }) :
  wpAny (model prog w) A (execs ((lawBody w).drop 11) (lawEnv w L)) Q E { s with heap := h, toks := tk } := by
  have hlt := len_text zs
  refine wpAny_execs_cons ?_
  obtain ⟨vp, hvp, hpp⟩ := id hP
  have hvl : vp.length = ps.length + 1 := by rw [hvp.len_eq]; rfl
  refine comp_srcA false hh ?hsw (by rfl) (by rfl) (by rfl) (fun _ => by rfl) (fun _ => by rfl) (by rfl) (by decide) (by rfl) (stable_tab fun i => plainT ((p :: ps).getD i Str.empty) (textOf zs)) (fun _ => by rfl) ?_
  case hsw => exact swaps_true (by rfl) (by rfl) (by rfl) (by rfl)
  refine NameIs.ev (LawSt.name S (by rfl) hmp) ?_
  refine ⟨_, _, _, Src.list hpp.isList, by omega, S.ns, ?_, ?_⟩
  · intro C' i v s₄ E' hi hv hN hg₄
    have C₄ := (S.cx C).keeps hg₄
    obtain ⟨tp, htp⟩ := StrsAre.get hvp (j := i) (by simp; omega)
    have hv' : v = .str ((p :: ps).getD i Str.empty) tp := by
      rw [htp] at hv; exact (Option.some.inj hv).symm
    subst hv'
    refine Call_ (nameK C₄ (by rfl) ?_)
    refine callWith_K (K := KK w) C₄.1 (by rfl) (args_cons ?_)
    refine NameIs.ev hN ?_
    refine args_cons ?_
    refine NameIs.ev (.inr ⟨.inl rfl, _, rfl, htx.keeps hg₄⟩) ?_
    refine args_nil ⟨C₄.1, ?_⟩
    dsimp only [List.nil_append]
    refine plain_spec (by exact C₄) (by omega) (by exact hh) (by omega) ?_
    rintro vt s₆ ⟨h₆, tk₆, rfl, hg₆⟩ hT
    exact ⟨hT, h₆, tk₆, rfl, hg₆⟩
  intro D h₁ tk₁ ys hD hn₁ hl₁ hlen hys hx₁
  (try dsimp only)
  have S₁ := S.set hn₁ hx₁
  have hW₁ : TabIs (L + 1) h₁ vw W := hW.ext hx₁
  have hts : TabsAre (L + 1) h₁ ys ((p :: ps).map fun q => plainT q (textOf zs)) := by
    refine ⟨by rw [hlen, hvl]; simp, fun i y hy => ?_⟩
    have h1 := (hys i y hy).down (show L + 1 ≤ h.objs.size from S.lt)
    have hi : i < (p :: ps).length := by
      obtain ⟨h2, _⟩ := List.getElem?_eq_some_iff.mp hy
      simp; omega
    rw [List.getD_eq_getElem?_getD, List.getElem?_map, List.getElem?_eq_getElem hi]
    rw [List.getD_eq_getElem?_getD, List.getElem?_eq_getElem hi] at h1
    exact h1
  have hyl : ys.length = ps.length + 1 := by rw [hlen, hvl]
  clear hys hx₁ hn₁ hW hP
  obtain ⟨y0, yr, rfl⟩ : ∃ y0 yr, ys = y0 :: yr := by
    cases ys with
    | nil => simp at hyl
    | cons a b => exact ⟨a, b, rfl⟩
  have C₁ := S₁.cx C
  refine wpAny_execs_cons ?_
  refine wpAny_Return_some ?_
  refine wpAny_Compare1 ?_
  refine NameIs.ev (LawSt.name S₁ (by rfl) hmw) ?_
  refine Call_ (nameK C₁ (by rfl) ?_)
  refine callWith_K (K := KK w) C₁.1 (by rfl) (args_cons ?_)
  refine nameK C₁ (by rfl) ?_
  refine args_cons (Subscript_ ?_)
  refine NameIs.ev (LawSt.name S₁ (by rfl) (by rfl)) ?_
  refine wpAny_Slice (evalPart_some_step (wpAny_Constant_int ?_))
  refine evalPart_none_step (evalPart_none_step (slice_list hl₁.isList (by simp at hyl ⊢; omega) (.int _ _) .none .none (by decide) ?_))
  intro a₂ h₂ ha₂ hl₂ hg₂
  dsimp only at hl₂ hg₂ ⊢
  rw [show (some 1 : Option Int) = some ((1 : Nat) : Int) from rfl, slicePick_from'] at hl₂
  have S₂ := S₁.keep hg₂
  have C₂ := S₂.cx C
  refine args_cons (Subscript_ ?_)
  refine NameIs.ev (LawSt.name S₂ (by rfl) (by rfl)) ?_
  refine wpAny_Constant_int ?_
  refine item_list (hl₁.isList.at fun o e => hg₂ _ _ e) (by omega) (by omega) (x := y0) (by simp) ?_
  refine args_nil ⟨C₂.1, ?_⟩
  dsimp only [List.nil_append]
  have hts₂ := hts.grow hg₂
  refine reduce_spec3 (lo := L + 1) (T := plainT p (textOf zs)) (Ts := ps.map fun q => plainT q (textOf zs)) (vs := yr) (by exact C₂) (by exact hroom) hh (by exact (by simpa using hl₂.isList)) (by exact hts₂.2 0 y0 rfl) ?_ (sP p) ?_ hn ?_
  · refine ⟨by have := hts₂.1; simpa using this, fun i y hy => ?_⟩
    have := hts₂.2 (i + 1) y (by simpa using hy)
    simpa using this
  · intro U hU
    obtain ⟨q, _, rfl⟩ := List.mem_map.mp hU
    exact sP q
  rintro v s₃ ⟨h₃, tk₃, rfl, hg₃⟩ hV
  rw [hEq] at hV
  dsimp only at hV hg₃ ⊢
  refine eq_tables (hW₁.grow (grow_trans hg₂ hg₃)) hV sW hn hu ?_
  exact hR h₃ tk₃ (grow_trans S₁.grow (grow_trans hg₂ hg₃))
end
end Mine

namespace Mine
open PySem.Builtin PySem.Builtin.Str PySem.Calls

/-- what is plain in the law: no program in sight -/
def PlainLaw : Prop := ∀ zs : List Int,
  (∀ f g, f ≤ 2 → 3 ≤ g → g ≤ 5 →
    [toldT (Txt.join Str.empty (((partsOf zs).drop f).take (g - f))) (textOf zs), toldT (Txt.join Str.empty ((partsOf zs).drop g)) (textOf zs)].foldl (joinT 6) (toldT (Txt.join Str.empty ((partsOf zs).take f)) (textOf zs))
      = toldT (Txt.join Str.empty (partsOf zs)) (textOf zs)) ∧
  (((partsOf zs).tail.map fun q => plainT q (textOf zs)).foldl (joinT 6) (plainT ((partsOf zs).headD Str.empty) (textOf zs)) = toldT (Txt.join Str.empty (partsOf zs)) (textOf zs))

theorem square_of (f : Nat → Nat → Bool) (n : Nat) : Square n ((List.range n).map fun i => (List.range n).map fun j => f i j) := by
  refine ⟨by simp, fun i hi => ?_⟩
  rw [List.getD_eq_getElem?_getD]
  simp [hi]
theorem square_told (p : Str) (zs : List Int) : Square 6 (toldT p (textOf zs)) := by
  unfold toldT
  rw [len_text]
  exact square_of _ 6
theorem square_plain (p : Str) (zs : List Int) : Square 6 (plainT p (textOf zs)) := by
  unfold plainT
  rw [len_text]
  exact square_of _ 6
theorem len_menu {x p : Str} (hx : x.length = 1) (hp : p ∈ menuOf x) : p.length ≤ 3 := by
  have ho : (ownOf x).length ≤ 3 := by
    unfold ownOf
    split
    · decide
    · omega
  simp only [menuOf, List.mem_cons, List.not_mem_nil, or_false] at hp
  rcases hp with rfl | rfl | rfl | rfl | rfl | rfl | rfl | rfl | rfl | rfl | rfl | rfl <;> first | exact ho | decide
theorem part_mem (x : Str) (z : Int) : partOf x z ∈ menuOf x := by
  unfold partOf
  have hm0 : 0 ≤ Int.fmod z 12 := Int.fmod_nonneg_of_pos _ (by decide)
  have hm1 : Int.fmod z 12 < 12 := Int.fmod_lt_of_pos _ (by decide)
  have hl : (menuOf x).length = 12 := rfl
  have hi : (Int.fmod z 12).toNat < (menuOf x).length := by omega
  rw [List.getD_eq_getElem?_getD, List.getElem?_eq_getElem hi]
  exact List.getElem_mem hi
theorem parts_short (zs : List Int) : ∀ p ∈ partsOf zs, p.length ≤ 3 := by
  intro p hp
  unfold partsOf at hp
  obtain ⟨k, _, rfl⟩ := List.mem_map.mp hp
  exact len_menu (len_item _ _) (part_mem _ _)
theorem sum_short : ∀ ps : List Str, (∀ p ∈ ps, p.length ≤ 3) → (ps.map (·.length)).sum ≤ 3 * ps.length
  | [], _ => Nat.le_refl _
  | p :: ps, h => by
    have h1 := h p List.mem_cons_self
    have h2 := sum_short ps fun q hq => h q (List.mem_cons_of_mem _ hq)
    simp only [List.map_cons, List.sum_cons, List.length_cons]
    omega
theorem len_parts (zs : List Int) : (partsOf zs).length = 5 := by simp [partsOf]

set_option maxHeartbeats 8000000 in
theorem law_spec (hP : PlainLaw) {prog : Program} {w : World} {A : Around} {s : Shared}
  (C : Cx w s.heap) (hroom : A.depth + 3 < recursionLimit) (hh : A.handled = none) (hu : A.units < 100) {a : Addr} {vs : List Value} {ns : List Int} (hl : s.heap.IsList a vs.toArray) (hI : IntsAre vs ns) (hlen : ns.length ≤ 63) {R : Result → Shared → Prop}
  (hR : ∀ s', Keeps s s' → R (.ok (.ret (.bool true))) s') :
   codeAny (model prog w) A (.call (.ref 62) ⟨[.ref a], []⟩) R s := by
  refine lawA C hroom hh hl hI hlen ?_
  intro L h tk m aS zs S htx
  have hh' : ∀ env, (A.deeper env).handled = none := fun _ => hh
  have hu' : ∀ env, (A.deeper env).units + 64 < cLine := fun env => by
    show A.units + 3 + 64 < 9900
    omega
  have hr1 : ∀ env, (A.deeper env).depth + 1 < recursionLimit := fun env => by
    show A.depth + 1 + 1 < recursionLimit
    omega
  have hr0 : ∀ env, (A.deeper env).depth < recursionLimit := fun env => Nat.lt_of_succ_lt (hr1 env)
  obtain ⟨hp1, hp2⟩ := hP zs
  have hs3 := parts_short zs
  have hl5 := len_parts zs
  refine lawB C (hh' _) S htx ?_
  clear S htx h tk
  intro h tk t S htx
  refine lawC C (hr0 _) (hh' _) S htx ?_
  clear S htx h tk m
  intro h tk m aP S htx hmp haP hPl
  refine lawD C (hh' _) S htx hmp haP hPl hl5 ?_
  clear S htx hmp hPl h tk m
  intro h tk m aQ f g S htx hmp hPl hmq hf hg hg' hPs
  have e1 := hp1 f g hf hg hg'
  generalize hps : partsOf zs = ps at *
  have w1 : ∀ q : List Str, (∀ x ∈ q, x ∈ ps) → q.length ≤ 5 → (q.map (·.length)).sum ≤ 900 ∧ q.length ≤ 100 := fun q hq hl => by
    have := sum_short q fun x hx => hs3 x (hq x hx)
    omega
  have m1 : ∀ x ∈ ps.take f, x ∈ ps := fun x hx => List.mem_of_mem_take hx
  have m2 : ∀ x ∈ (ps.drop f).take (g - f), x ∈ ps := fun x hx => List.mem_of_mem_drop (List.mem_of_mem_take hx)
  have m3 : ∀ x ∈ ps.drop g, x ∈ ps := fun x hx => List.mem_of_mem_drop hx
  refine lawE C (hr1 _) (hh' _) S htx hmp haP hPl hmq hPs (w1 ps (fun _ h => h) (by omega)).1 (by omega) (by simp) ?_ ?_
  · intro q hq
    simp only [List.mem_cons, List.not_mem_nil, or_false] at hq
    rcases hq with rfl | rfl | rfl
    · exact w1 _ m1 (by rw [List.length_take]; omega)
    · exact w1 _ m2 (by rw [List.length_take, List.length_drop]; omega)
    · exact w1 _ m3 (by rw [List.length_drop]; omega)
  clear S htx hmp hPl hmq hPs h tk m
  intro h tk m vw aT S htx hmp hPl hmw hW hmt hT
  have sq := fun p => square_told p zs
  refine lawF C (hr0 _) (hh' _) (hu' _) S hmw hW hmt hT ?_ (by simp) ?_
  · intro U hU
    have : Square 6 U := by
      simp only [List.map_cons, List.map_nil, List.mem_cons, List.not_mem_nil, or_false] at hU
      rcases hU with rfl | rfl | rfl | rfl <;> exact sq _
    rw [this.1]; decide
  intro h' tk' m' S' hx' hm'
  have hmp' : m' "parts" = some (.ref aP) := (hm' _ (by decide)).trans hmp
  have hmw' : m' "whole" = some vw := (hm' _ (by decide)).trans hmw
  have hmt' : m' "told" = some (.ref aT) := (hm' _ (by decide)).trans hmt
  have htx' : h'.IsCell (L + 4) (some (.str (textOf zs) t)) := let ⟨o, e, d⟩ := htx; ⟨o, hx' _ _ (by simp) e, d⟩
  have hPl' : StrList h' aP ps := hPl.at fun o e => hx' _ o (Nat.ne_of_gt haP) e
  have hW' := hW.ext hx'
  have hT' := hT.ext hx'
  clear S htx hmp hPl hmw hW hmt hT hm' hx' h tk m
  refine lawG C (hr1 _) (hh' _) (hu' _) S' hmw' hW' hmt' hT' (sq _) (sq _) ?_ (by decide) e1 ?_
  · intro U hU
    simp only [List.map_cons, List.map_nil, List.mem_cons, List.not_mem_nil, or_false] at hU
    rcases hU with rfl | rfl <;> exact sq _
  intro h₂ tk₂ S₂ hg₂
  obtain ⟨p, pr, rfl⟩ : ∃ p pr, ps = p :: pr := by
    cases ps with
    | nil => simp at hl5
    | cons a b => exact ⟨a, b, rfl⟩
  refine lawH C (hr1 _) (hh' _) (hu' _) S₂ (htx'.keeps hg₂) hmw' (hW'.grow hg₂) hmp' haP (hPl'.grow hg₂) (by simp at hl5; omega) (sq _) (by decide) (fun q => square_plain q zs) hp2 ?_
  intro h₃ tk₃ hg₃
  exact hR _ ⟨_, _, rfl, hg₃⟩
end Mine

namespace Mine
open PySem.Builtin PySem.Builtin.Str PySem.Calls

def MatP : List (List Nat) → List Nat → Prop
  | [], s => s = []
  | p :: ps, s => ∃ a b, s = a ++ b ∧ (p = dots ∨ a = p) ∧ MatP ps b
def segs : List (List Nat) → List (List Nat)
  | [] => [[]]
  | p :: ps => if p = dots then [] :: segs ps else (p ++ (segs ps).headD []) :: (segs ps).tail
def GlobP : List (List Nat) → List Nat → Prop
  | [], _ => False
  | [w], s => s = w
  | w :: w' :: r, s => ∃ a b, s = w ++ (a ++ b) ∧ GlobP (w' :: r) b
def SubP : List (List Nat) → List Nat → Prop
  | [], _ => True
  | w :: r, t => ∃ a b, t = a ++ (w ++ b) ∧ SubP r b

theorem segs_ne (ps : List (List Nat)) : segs ps ≠ [] := by
  cases ps with
  | nil => simp [segs]
  | cons p ps => rw [segs]; split <;> simp

theorem mat_glob : ∀ (ps : List (List Nat)) (s : List Nat), MatP ps s ↔ GlobP (segs ps) s
  | [], s => by rw [MatP, segs, GlobP]
  | p :: ps, s => by
    have ih := mat_glob ps
    obtain ⟨w, r, hw⟩ : ∃ w r, segs ps = w :: r := by
      cases h : segs ps with
      | nil => exact absurd h (segs_ne ps)
      | cons w r => exact ⟨w, r, rfl⟩
    rw [MatP, segs]
    by_cases hp : p = dots
    · rw [if_pos hp, hw, GlobP, ← hw]
      constructor
      · rintro ⟨a, b, h1, _, h2⟩
        exact ⟨a, b, h1, (ih b).mp h2⟩
      · rintro ⟨a, b, h1, h2⟩
        exact ⟨a, b, h1, .inl hp, (ih b).mpr h2⟩
    · rw [if_neg hp, hw, List.headD_cons, List.tail_cons]
      have h1 : (∃ a b, s = a ++ b ∧ (p = dots ∨ a = p) ∧ MatP ps b) ↔ ∃ b, s = p ++ b ∧ GlobP (w :: r) b := by
        constructor
        · rintro ⟨a, b, e, h2 | h2, h3⟩
          · exact absurd h2 hp
          · subst h2; exact ⟨b, e, by rw [← hw]; exact (ih b).mp h3⟩
        · rintro ⟨b, e, h3⟩
          exact ⟨p, b, e, .inr rfl, (ih b).mpr (by rw [hw]; exact h3)⟩
      rw [h1]
      cases r with
      | nil =>
        simp only [GlobP]
        constructor
        · rintro ⟨b, e, rfl⟩; exact e
        · rintro e; exact ⟨w, e, rfl⟩
      | cons w' r =>
        simp only [GlobP]
        constructor
        · rintro ⟨b, e, a, b', e', h⟩
          exact ⟨a, b', by rw [e, e', List.append_assoc], h⟩
        · rintro ⟨a, b', e, h⟩
          exact ⟨w ++ (a ++ b'), by rw [e, List.append_assoc], a, b', rfl, h⟩

theorem glob_sub : ∀ (mid : List (List Nat)) (w0 wl s : List Nat), GlobP (w0 :: (mid ++ [wl])) s ↔ ∃ t, s = w0 ++ (t ++ wl) ∧ SubP mid t
  | [], w0, wl, s => by
    simp only [List.nil_append, GlobP, SubP, and_true]
    constructor
    · rintro ⟨a, b, e, rfl⟩; exact ⟨a, e⟩
    · rintro ⟨t, e⟩; exact ⟨t, wl, e, rfl⟩
  | w :: mid, w0, wl, s => by
    simp only [List.cons_append, GlobP]
    constructor
    · rintro ⟨a, b, e, h⟩
      obtain ⟨t, e', h'⟩ := (glob_sub mid w wl b).mp h
      exact ⟨a ++ (w ++ t), by rw [e, e']; simp [List.append_assoc], a, t, rfl, h'⟩
    · rintro ⟨t', e, a, t, e', h'⟩
      refine ⟨a, w ++ (t ++ wl), by rw [e, e']; simp [List.append_assoc], (glob_sub mid w wl _).mpr ⟨t, rfl, h'⟩⟩

theorem sub_mono : ∀ (r : List (List Nat)) (b c : List Nat), SubP r b → SubP r (c ++ b)
  | [], _, _, _ => trivial
  | w :: r, b, c, ⟨x, y, e, h⟩ => ⟨c ++ x, y, by rw [e, List.append_assoc], h⟩
theorem sub_nil_cons (r : List (List Nat)) (t : List Nat) : SubP ([] :: r) t ↔ SubP r t := by
  constructor
  · rintro ⟨a, b, e, h⟩
    rw [e]
    exact sub_mono r _ _ (by simpa using h)
  · intro h
    exact ⟨[], t, by simp, h⟩
theorem sub_snoc_nil : ∀ (r : List (List Nat)) (t : List Nat), SubP (r ++ [[]]) t ↔ SubP r t
  | [], t => by
    refine ⟨fun _ => trivial, fun _ => ⟨[], t, by simp, trivial⟩⟩
  | w :: r, t => by
    simp only [List.cons_append, SubP]
    constructor
    · rintro ⟨a, b, e, h⟩; exact ⟨a, b, e, (sub_snoc_nil r b).mp h⟩
    · rintro ⟨a, b, e, h⟩; exact ⟨a, b, e, (sub_snoc_nil r b).mpr h⟩

/-- a stretch of a text -/
abbrev reg (G : List Nat) (a b : Nat) : List Nat := (G.drop a).take (b - a)
theorem reg_split {G : List Nat} {a m b : Nat} (h1 : a ≤ m) (h2 : m ≤ b) : reg G a b = reg G a m ++ reg G m b := by
  unfold reg
  have e : b - a = (m - a) + (b - m) := by omega
  rw [e, List.take_add, List.drop_drop, show a + (m - a) = m by omega]

theorem sub_reg {G : List Nat} {w : List Nat} {r : List (List Nat)} {sp ep : Nat} (h1 : sp ≤ ep) (h2 : ep ≤ G.length) :
    SubP (w :: r) (reg G sp ep) ↔ ∃ i, sp ≤ i ∧ i + w.length ≤ ep ∧ (G.drop i).take w.length = w ∧ SubP r (reg G (i + w.length) ep) := by
  constructor
  · rintro ⟨a, b, e, h⟩
    have hl : (reg G sp ep).length = ep - sp := by unfold reg; rw [List.length_take, List.length_drop]; omega
    have hl2 : ep - sp = a.length + (w.length + b.length) := by rw [← hl, e]; simp
    refine ⟨sp + a.length, by omega, by omega, ?_, ?_⟩
    · have e1 : (reg G sp ep).drop a.length = w ++ b := by rw [e]; simp
      have e2 : ((reg G sp ep).drop a.length).take w.length = w := by rw [e1]; simp
      unfold reg at e2
      rw [List.drop_take, List.take_take, List.drop_drop, show min w.length (ep - sp - a.length) = w.length by omega] at e2
      exact e2
    · have e1 : (reg G sp ep).drop (a.length + w.length) = b := by rw [e, ← List.append_assoc, ← List.length_append]; simp
      unfold reg at e1 ⊢
      rw [List.drop_take, List.drop_drop] at e1
      rw [show sp + a.length + w.length = sp + (a.length + w.length) by omega, show ep - (sp + (a.length + w.length)) = ep - sp - (a.length + w.length) by omega, e1]
      exact h
  · rintro ⟨i, h3, h4, h5, h6⟩
    refine ⟨reg G sp i, reg G (i + w.length) ep, ?_, h6⟩
    rw [reg_split (m := i) h3 (by omega), reg_split (a := i) (m := i + w.length) (b := ep) (by omega) h4]
    congr 2
    unfold reg
    rw [show i + w.length - i = w.length by omega, h5]
end Mine

namespace Mine
open PySem.Builtin PySem.Builtin.Str PySem.Calls

abbrev toL (x : Str) : List Nat := x.cps.toList
theorem toL_len (x : Str) : (toL x).length = x.length := by simp [Str.length]

theorem occ_head_hi (x y : Str) (lo hi limit : Nat) (hl : 1 ≤ limit) :
    (occurrences x y lo hi limit = [] ∧ ∀ i, lo ≤ i → ¬ StrLaws.At x y hi i) ∨
    ∃ i r, occurrences x y lo hi limit = i :: r ∧ lo ≤ i ∧ StrLaws.At x y hi i ∧ ∀ k, lo ≤ k → k < i → ¬ StrLaws.At x y hi k := by
  rw [StrLaws.occ_eq]
  rcases StrLaws.occ_first x y hi limit hl (List.range' lo (hi + 1 - lo)) lo (fun i hi => by have := List.mem_range'_1.mp hi; omega) with ⟨h0, hn⟩ | ⟨pre, a, post, e, h0, ha, hn⟩
  · refine .inl ⟨by rw [h0], fun i hlo h => ?_⟩
    exact hn i (by have := h.1; rw [List.mem_range'_1]; omega) h
  · have hs := StrLaws.range'_split_from e
    generalize (forIn (List.range' lo (hi + 1 - lo)) ((#[] : Array Nat), lo) (StrLaws.occBody x y hi limit)).run.fst = arr at h0
    have h1 : arr.toList[0]? = some a := by simpa using h0
    cases hL : arr.toList with
    | nil => rw [hL] at h1; cases h1
    | cons b t =>
      rw [hL] at h1
      have hb : b = a := by simpa using h1
      subst hb
      exact .inr ⟨b, t, rfl, hs.1, ha, fun k hk0 hk => hn k (hs.2 k hk0 hk)⟩

theorem find4_spec (x y : Str) (sp ep : Nat) (h1 : sp ≤ ep) (h2 : ep ≤ x.length) :
    (find4 x y sp ep < 0 ∧ ∀ i, sp ≤ i → i + y.length ≤ ep → ¬ ((toL x).drop i).take y.length = toL y) ∨
    ∃ i : Nat, find4 x y sp ep = i ∧ sp ≤ i ∧ i + y.length ≤ ep ∧ ((toL x).drop i).take y.length = toL y ∧ ∀ k, sp ≤ k → k < i → k + y.length ≤ ep → ¬ ((toL x).drop k).take y.length = toL y := by
  have e1 : fromIndex x.length (sp : Int) = sp := by unfold fromIndex; rw [if_neg (by omega)]; omega
  have e2 : min (fromIndex x.length (ep : Int)) x.length = ep := by unfold fromIndex; rw [if_neg (by omega)]; omega
  have hA : ∀ i, StrLaws.At x y ep i ↔ i + y.length ≤ ep ∧ ((toL x).drop i).take y.length = toL y := fun i => by
    unfold StrLaws.At
    rw [StrLaws.subAt_eq, beq_iff_eq]
  unfold find4
  rw [e1, e2]
  rcases occ_head_hi x y sp ep 1 (Nat.le_refl _) with ⟨h0, hn⟩ | ⟨i, r, h0, hi, ha, hn⟩
  · rw [h0]
    exact .inl ⟨by decide, fun i h3 h4 h5 => hn i h3 ((hA i).mpr ⟨h4, h5⟩)⟩
  · rw [h0]
    have := (hA i).mp ha
    exact .inr ⟨i, rfl, hi, this.1, this.2, fun k h3 h4 h5 h6 => hn k h3 h4 ((hA k).mpr ⟨h5, h6⟩)⟩

theorem tail_iff (got : Str) : ∀ (ws : List Str) (sp ep : Nat), sp ≤ ep → ep ≤ got.length → (ellTail got (ep : Int) ws (sp : Int) = true ↔ SubP (ws.map toL) (reg (toL got) sp ep))
  | [], sp, ep, _, _ => by simp [ellTail, SubP]
  | w :: ws, sp, ep, h1, h2 => by
    have hL : ep ≤ (toL got).length := by rw [toL_len]; exact h2
    rw [ellTail, List.map_cons, sub_reg h1 hL, toL_len]
    rcases find4_spec got w sp ep h1 h2 with ⟨hneg, hn⟩ | ⟨i, he, hi, hie, hm, hmin⟩
    · rw [if_pos hneg]
      refine ⟨fun h => (by cases h), ?_⟩
      rintro ⟨i, h3, h4, h5, _⟩
      exact absurd h5 (hn i h3 h4)
    · rw [he, if_neg (by omega), show ((i : Nat) : Int) + (w.length : Int) = ((i + w.length : Nat) : Int) by simp, tail_iff got ws (i + w.length) ep hie h2]
      constructor
      · intro h
        exact ⟨i, hi, hie, hm, h⟩
      · rintro ⟨k, h3, h4, h5, h6⟩
        have hik : i ≤ k := by
          rcases Nat.lt_or_ge k i with hlt | hge
          · exact absurd h5 (hmin k h3 hlt h4)
          · exact hge
        rw [reg_split (a := i + w.length) (m := k + w.length) (b := ep) (by omega) h4]
        exact sub_mono _ _ _ h6

theorem ends_iff (x y : Str) : Txt.endswith x y = true ↔ ∃ t, toL x = t ++ toL y := by
  unfold Txt.endswith
  rw [Bool.and_eq_true, decide_eq_true_eq, StrLaws.subAt_eq, beq_iff_eq]
  constructor
  · rintro ⟨h1, h2⟩
    refine ⟨(toL x).take (x.length - y.length), ?_⟩
    rw [List.take_of_length_le (by rw [List.length_drop, toL_len]; omega)] at h2
    exact (List.take_append_drop (x.length - y.length) (toL x)).symm.trans (by rw [h2])
  · rintro ⟨t, e⟩
    have hl := congrArg List.length e
    rw [List.length_append, toL_len, toL_len] at hl
    refine ⟨by omega, ?_⟩
    show ((toL x).drop _).take _ = toL y
    rw [e, List.drop_append_of_le_length (by omega), show x.length - y.length = t.length by omega, List.drop_length, List.nil_append, List.take_of_length_le (by rw [toL_len]; omega)]
theorem starts_iff (x y : Str) : Txt.startswith x y = true ↔ y.length ≤ x.length ∧ (toL x).take y.length = toL y := by
  unfold Txt.startswith
  rw [Bool.and_eq_true, decide_eq_true_eq, StrLaws.subAt_eq, beq_iff_eq, List.drop_zero]
  constructor
  · rintro ⟨h1, h2⟩; exact ⟨by omega, h2⟩
  · rintro ⟨h1, h2⟩; exact ⟨by omega, h2⟩
theorem len_zero {x : Str} (h : ¬ (x.length != 0) = true) : toL x = [] := by
  have : x.length = 0 := by simpa using h
  exact List.length_eq_zero_iff.mp (by rw [toL_len]; exact this)

theorem mid_iff (got : Str) (xs : List Str) (wl : Str) (sp : Nat) (h1 : sp ≤ got.length) :
    ellMid got (sp : Int) (xs ++ [wl]) = true ↔ ∃ t, (toL got).drop sp = t ++ toL wl ∧ SubP (xs.map toL) t := by
  have hN := toL_len got
  have hlast : (xs ++ [wl]).getLastD Str.empty = wl := by
    rw [List.getLastD_eq_getLast?]; simp
  have hdl : (xs ++ [wl]).dropLast = xs := by simp
  unfold ellMid
  rw [hlast, hdl]
  by_cases h0 : (wl.length != 0) = true
  · rw [if_pos h0]
    by_cases he : Txt.endswith got wl = true
    · rw [if_pos he]
      obtain ⟨t, et⟩ := (ends_iff got wl).mp he
      have hl := congrArg List.length et
      rw [List.length_append, hN, toL_len] at hl
      unfold ellEnd
      by_cases hlt : (got.length : Int) - (wl.length : Int) < (sp : Int)
      · rw [if_pos hlt]
        refine ⟨fun h => (by cases h), ?_⟩
        rintro ⟨t', e', _⟩
        have hl' := congrArg List.length e'
        rw [List.length_append, List.length_drop, hN, toL_len] at hl'
        have : wl.length ≠ 0 := by simpa using h0
        omega
      · rw [if_neg hlt, show (got.length : Int) - (wl.length : Int) = ((got.length - wl.length : Nat) : Int) by omega, tail_iff got xs sp (got.length - wl.length) (by omega) (by omega)]
        have hwl : (toL got).drop (got.length - wl.length) = toL wl := by
          rw [et, List.drop_append_of_le_length (by omega), show got.length - wl.length = t.length by omega, List.drop_length, List.nil_append]
        have hsplit : (toL got).drop sp = reg (toL got) sp (got.length - wl.length) ++ toL wl := by
          unfold reg
          conv => lhs; rw [← List.take_append_drop (got.length - wl.length - sp) ((toL got).drop sp)]
          rw [List.drop_drop, show sp + (got.length - wl.length - sp) = got.length - wl.length by omega, hwl]
        constructor
        · intro h; exact ⟨_, hsplit, h⟩
        · rintro ⟨t', e', h'⟩
          rw [hsplit] at e'
          have := List.append_cancel_right e'
          rw [this]; exact h'
    · rw [if_neg he]
      refine ⟨fun h => (by cases h), ?_⟩
      rintro ⟨t, e, _⟩
      refine absurd ((ends_iff got wl).mpr ⟨(toL got).take sp ++ t, ?_⟩) he
      rw [List.append_assoc, ← e, List.take_append_drop]
  · rw [if_neg h0]
    have hw := len_zero h0
    unfold ellEnd
    rw [if_neg (by omega), tail_iff got (xs ++ [wl]) sp got.length h1 (Nat.le_refl _), List.map_append, List.map_cons, List.map_nil, hw, sub_snoc_nil]
    have hreg : reg (toL got) sp got.length = (toL got).drop sp := List.take_of_length_le (by rw [List.length_drop, hN]; omega)
    rw [hreg]
    constructor
    · intro h; exact ⟨_, by simp, h⟩
    · rintro ⟨t, e, h⟩
      rw [List.append_nil] at e
      rw [e]; exact h

theorem top_iff (got : Str) (w0 : Str) (mid : List Str) (wl : Str) :
    ellTop got (w0 :: (mid ++ [wl])) = true ↔ GlobP ((w0 :: (mid ++ [wl])).map toL) (toL got) := by
  have hN := toL_len got
  rw [List.map_cons, List.map_append, List.map_cons, List.map_nil, glob_sub]
  unfold ellTop
  rw [List.headD_cons, List.tail_cons]
  by_cases h0 : (w0.length != 0) = true
  · rw [if_pos h0]
    by_cases hs : Txt.startswith got w0 = true
    · obtain ⟨h1, h2⟩ := (starts_iff got w0).mp hs
      rw [if_pos hs, mid_iff got mid wl w0.length h1]
      have hg : toL got = toL w0 ++ (toL got).drop w0.length := by
        conv => lhs; rw [← List.take_append_drop w0.length (toL got), h2]
      constructor
      · rintro ⟨t, e, h⟩
        exact ⟨t, by rw [hg, e], h⟩
      · rintro ⟨t, e, h⟩
        rw [hg] at e
        exact ⟨t, List.append_cancel_left e, h⟩
    · rw [if_neg hs]
      refine ⟨fun h => (by cases h), ?_⟩
      rintro ⟨t, e, _⟩
      refine absurd ((starts_iff got w0).mpr ⟨?_, ?_⟩) hs
      · have := congrArg List.length e
        rw [List.length_append, hN, toL_len] at this
        omega
      · rw [e, List.take_append_of_le_length (by rw [toL_len]; omega), List.take_of_length_le (by rw [toL_len]; omega)]
  · rw [if_neg h0]
    have hw := len_zero h0
    have := mid_iff got (w0 :: mid) wl 0 (Nat.zero_le _)
    rw [List.cons_append] at this
    rw [show (0 : Int) = ((0 : Nat) : Int) from rfl, this, List.map_cons, hw, List.drop_zero]
    simp only [List.nil_append, sub_nil_cons]

/-- a part of a pattern: three dots, or at most two dots and one sign that is none -/
def Good (p : List Nat) : Prop := p = dots ∨ ∃ k c, k ≤ 2 ∧ c ≠ 46 ∧ p = List.replicate k 46 ++ [c]

theorem splitL_cons_ne {c : Nat} {r : List Nat} (h : ¬ (c :: r).take 3 = dots) : splitL (c :: r) = (c :: (splitL r).headD []) :: (splitL r).tail := by
  rw [splitL, if_neg h]
theorem good_split : ∀ (ps : List (List Nat)), (∀ p ∈ ps, Good p) → splitL ps.flatten = segs ps
  | [], _ => by rw [List.flatten_nil, splitL, segs]
  | p :: ps, h => by
    have ih := good_split ps fun q hq => h q (List.mem_cons_of_mem _ hq)
    rw [List.flatten_cons, segs]
    rcases h p List.mem_cons_self with rfl | ⟨k, c, hk, hc, rfl⟩
    · rw [if_pos rfl]
      show splitL (46 :: 46 :: 46 :: ps.flatten) = _
      rw [splitL, if_pos (by simp)]
      simp only [List.drop_succ_cons, List.drop_zero, ih]
    · have hne : ¬ (List.replicate k 46 ++ [c] : List Nat) = dots := by
        intro e
        have := congrArg List.getLast? e
        simp at this
        exact hc this
      rw [if_neg hne, ← ih]
      have h0 : splitL (c :: ps.flatten) = (c :: (splitL ps.flatten).headD []) :: (splitL ps.flatten).tail := splitL_cons_ne (by simp [hc])
      have h1 : splitL (46 :: c :: ps.flatten) = (46 :: c :: (splitL ps.flatten).headD []) :: (splitL ps.flatten).tail := by
        rw [splitL_cons_ne (by simp [hc]), h0]; rfl
      have h2 : splitL (46 :: 46 :: c :: ps.flatten) = (46 :: 46 :: c :: (splitL ps.flatten).headD []) :: (splitL ps.flatten).tail := by
        rw [splitL_cons_ne (by simp [hc]), h1]; rfl
      have hk' : k = 0 ∨ k = 1 ∨ k = 2 := by omega
      rcases hk' with rfl | rfl | rfl
      · exact h0
      · exact h1
      · exact h2

theorem ell_mat {want got : Str} {ps : List (List Nat)} (hw : toL want = ps.flatten) (hg : ∀ p ∈ ps, Good p) : ellMatch want got = true ↔ MatP ps (toL got) := by
  rw [mat_glob, ← good_split ps hg, ← hw]
  unfold ellMatch
  by_cases he : (occurrences want (Str.ofString "...") 0 want.length 1).isEmpty = true
  · rw [if_pos he, scan_nil_split _ _ 0 (Nat.le_refl _) ((occ1_nil want).mp he), GlobP, beq_iff_eq]
    constructor
    · rintro rfl; rfl
    · intro e; exact (str_eq_of e).trans (str_eq_of rfl).symm |>.symm
  · rw [if_neg he, split_is]
    have h2 := split_two he
    rw [split_is, List.length_map] at h2
    obtain ⟨w0, mid, wl, hs⟩ : ∃ w0 mid wl, splitL (toL want) = w0 :: (mid ++ [wl]) := by
      cases hs : splitL (toL want) with
      | nil => rw [hs] at h2; simp at h2
      | cons w0 r =>
        rw [hs] at h2
        have hr : r ≠ [] := by intro e; rw [e] at h2; simp at h2
        exact ⟨w0, r.dropLast, r.getLast hr, by rw [List.dropLast_concat_getLast]⟩
    rw [hs, List.map_cons, List.map_append, List.map_cons, List.map_nil, top_iff]
    simp [Function.comp_def]
end Mine

namespace Mine
open PySem.Builtin PySem.Builtin.Str PySem.Calls

theorem mat_append : ∀ (A B : List (List Nat)) (s : List Nat), MatP (A ++ B) s ↔ ∃ a b, s = a ++ b ∧ MatP A a ∧ MatP B b
  | [], B, s => by
    simp only [List.nil_append, MatP]
    constructor
    · intro h; exact ⟨[], s, rfl, rfl, h⟩
    · rintro ⟨a, b, e, rfl, h⟩; rw [e]; exact h
  | p :: A, B, s => by
    simp only [List.cons_append, MatP]
    constructor
    · rintro ⟨a, b, e, hp, h⟩
      obtain ⟨a', b', e', h1, h2⟩ := (mat_append A B b).mp h
      exact ⟨a ++ a', b', by rw [e, e', List.append_assoc], ⟨a, a', rfl, hp, h1⟩, h2⟩
    · rintro ⟨x, b', e, ⟨a, a', e', hp, h1⟩, h2⟩
      exact ⟨a, a' ++ b', by rw [e, e', List.append_assoc], hp, (mat_append A B _).mpr ⟨a', b', rfl, h1, h2⟩⟩

theorem slice_list' (x : Str) {i j : Nat} (h1 : i ≤ j) (h2 : j ≤ x.length) : toL (Txt.slice x (some (i : Int)) (some (j : Int))) = reg (toL x) i j := by
  unfold Txt.slice
  have e := StrLaws.sliced_plain x h1 h2
  have el : (strSliceIndices (some (i : Int)) (some (j : Int)) 1 x.length).length = j - i := by
    rw [StrLaws.strSliceIndices_plain h1 h2]; simp
  split
  · rename_i hc
    rw [Bool.and_eq_true, beq_iff_eq, beq_iff_eq, el] at hc
    have hi : i = 0 := by omega
    have hj : j = x.length := by omega
    subst hi hj
    show toL x = _
    unfold reg
    rw [List.drop_zero, Nat.sub_zero, List.take_of_length_le (by rw [toL_len]; omega)]
  · show (List.filterMap _ _).toArray.toList = _
    rw [e]

/-- the table of what P takes, over a text of signs -/
def IsTab (n : Nat) (G : List Nat) (P : List Nat → Prop) (T : List (List Bool)) : Prop :=
  Square n T ∧ ∀ i j, i < n → j < n → (cellT T i j = true ↔ i ≤ j ∧ P (reg G i j))

theorem tab_ext {n : Nat} {G : List Nat} {P P' : List Nat → Prop} {T T' : List (List Bool)} (h : IsTab n G P T) (h' : IsTab n G P' T') (hp : ∀ s, P s ↔ P' s) : T = T' := by
  apply List.ext_getElem?
  intro i
  by_cases hi : i < n
  · have l1 : i < T.length := by rw [h.1.1]; exact hi
    have l2 : i < T'.length := by rw [h'.1.1]; exact hi
    rw [List.getElem?_eq_getElem l1, List.getElem?_eq_getElem l2]
    congr 1
    have r1 := h.1.2 i hi
    have r2 := h'.1.2 i hi
    have c1 : T.getD i [] = T[i] := by rw [List.getD_eq_getElem?_getD, List.getElem?_eq_getElem l1]; rfl
    have c2 : T'.getD i [] = T'[i] := by rw [List.getD_eq_getElem?_getD, List.getElem?_eq_getElem l2]; rfl
    rw [c1] at r1
    rw [c2] at r2
    apply List.ext_getElem?
    intro j
    by_cases hj : j < n
    · have k1 : j < T[i].length := by omega
      have k2 : j < T'[i].length := by omega
      rw [List.getElem?_eq_getElem k1, List.getElem?_eq_getElem k2]
      congr 1
      have e1 := h.2 i j hi hj
      have e2 := h'.2 i j hi hj
      unfold cellT at e1 e2
      rw [c1, List.getD_eq_getElem?_getD, List.getElem?_eq_getElem k1, Option.getD_some] at e1
      rw [c2, List.getD_eq_getElem?_getD, List.getElem?_eq_getElem k2, Option.getD_some] at e2
      rw [Bool.eq_iff_iff, e1, e2, hp]
    · rw [List.getElem?_eq_none (by omega), List.getElem?_eq_none (by omega)]
  · rw [List.getElem?_eq_none (by rw [h.1.1]; omega), List.getElem?_eq_none (by rw [h'.1.1]; omega)]

theorem cell_map (f : Nat → Nat → Bool) {n i j : Nat} (hi : i < n) (hj : j < n) : cellT ((List.range n).map fun i => (List.range n).map fun j => f i j) i j = f i j := by
  unfold cellT
  rw [List.getD_eq_getElem?_getD, List.getD_eq_getElem?_getD]
  simp [hi, hj]

theorem tab_join {n : Nat} {G : List Nat} {P P' : List Nat → Prop} {T T' : List (List Bool)} (hG : G.length + 1 = n) (h : IsTab n G P T) (h' : IsTab n G P' T') :
    IsTab n G (fun s => ∃ a b, s = a ++ b ∧ P a ∧ P' b) (joinT n T T') := by
  refine ⟨square_join n T T', fun i j hi hj => ?_⟩
  unfold joinT
  rw [cell_map _ hi hj, List.any_eq_true]
  constructor
  · rintro ⟨k, hk, hc⟩
    rw [List.mem_range] at hk
    rw [Bool.and_eq_true] at hc
    have h1 := (h.2 i (i + k) hi (by omega)).mp hc.1
    have h2 := (h'.2 (i + k) j (by omega) hj).mp hc.2
    refine ⟨by omega, reg G i (i + k), reg G (i + k) j, ?_, h1.2, h2.2⟩
    rw [reg_split (m := i + k) h1.1 h2.1]
  · rintro ⟨hij, a, b, e, ha, hb⟩
    have hl : (reg G i j).length = j - i := by unfold reg; rw [List.length_take, List.length_drop]; omega
    have hl2 : j - i = a.length + b.length := by rw [← hl, e]; simp
    refine ⟨a.length, by rw [List.mem_range]; omega, ?_⟩
    rw [reg_split (m := i + a.length) (by omega) (by omega)] at e
    have hla : (reg G i (i + a.length)).length = a.length := by unfold reg; rw [List.length_take, List.length_drop]; omega
    obtain ⟨e1, e2⟩ := List.append_inj e hla
    rw [Bool.and_eq_true]
    exact ⟨(h.2 i (i + a.length) hi (by omega)).mpr ⟨by omega, by rw [e1]; exact ha⟩, (h'.2 (i + a.length) j (by omega) hj).mpr ⟨by omega, by rw [e2]; exact hb⟩⟩

theorem tab_told {qs : List Str} {text : Str} {n : Nat} (hn : text.length + 1 = n) (hg : ∀ q ∈ qs, Good (toL q)) : IsTab n (toL text) (MatP (qs.map toL)) (toldT (Txt.join Str.empty qs) text) := by
  unfold toldT
  rw [hn]
  refine ⟨square_of _ n, fun i j hi hj => ?_⟩
  rw [cell_map _ hi hj, Bool.and_eq_true, decide_eq_true_eq]
  refine and_congr_right fun hij => ?_
  rw [ell_mat (ps := qs.map toL) (cps_join qs) (by intro p hp; obtain ⟨q, hq, rfl⟩ := List.mem_map.mp hp; exact hg q hq), slice_list' text hij (by omega)]

theorem tab_plain {q : Str} {text : Str} {n : Nat} (hn : text.length + 1 = n) : IsTab n (toL text) (MatP [toL q]) (plainT q text) := by
  unfold plainT
  rw [hn]
  refine ⟨square_of _ n, fun i j hi hj => ?_⟩
  rw [cell_map _ hi hj, Bool.and_eq_true, decide_eq_true_eq]
  refine and_congr_right fun hij => ?_
  rw [Bool.or_eq_true, beq_iff_eq, beq_iff_eq, ← slice_list' text hij (by omega)]
  simp only [MatP]
  constructor
  · rintro (rfl | h)
    · exact ⟨toL (Txt.slice text (some (i : Int)) (some (j : Int))), [], (List.append_nil _).symm, .inl dotsS_list, rfl⟩
    · exact ⟨toL (Txt.slice text (some (i : Int)) (some (j : Int))), [], (List.append_nil _).symm, .inr (by rw [← h]), rfl⟩
  · rintro ⟨a, b, e, h | h, rfl⟩
    · exact .inl ((str_eq_of h).trans (str_eq_of dotsS_list).symm)
    · right
      rw [List.append_nil] at e
      rw [h] at e
      exact (str_eq_of rfl).trans (str_eq_of e).symm

theorem tab_fold {text : Str} {n : Nat} (hn : text.length + 1 = n) : ∀ (qs : List Str) (A : List (List Nat)) (T : List (List Bool)), IsTab n (toL text) (MatP A) T →
    IsTab n (toL text) (MatP (A ++ qs.map toL)) ((qs.map fun q => plainT q text).foldl (joinT n) T)
  | [], A, T, h => by simpa using h
  | q :: qs, A, T, h => by
    have h1 := tab_join (by rw [toL_len]; exact hn) h (tab_plain (q := q) hn)
    have h2 : IsTab n (toL text) (MatP (A ++ [toL q])) (joinT n T (plainT q text)) := ⟨h1.1, fun i j hi hj => by rw [h1.2 i j hi hj, mat_append]⟩
    have h3 := tab_fold hn qs (A ++ [toL q]) _ h2
    simpa [List.append_assoc] using h3

theorem menu_good {x p : Str} {c : Nat} (hx : x = ⟨#[c]⟩) (hp : p ∈ menuOf x) : Good (toL p) := by
  have ho : Good (toL (ownOf x)) := by
    unfold ownOf
    split
    · exact .inl dotsS_list
    · rename_i h
      subst hx
      refine .inr ⟨0, c, by omega, ?_, by simp⟩
      rintro rfl
      exact h (by decide)
  simp only [menuOf, List.mem_cons, List.not_mem_nil, or_false] at hp
  have g1 : Good (toL (Str.ofString "...")) := .inl dotsS_list
  have g2 : Good (toL (Str.ofString "b")) := .inr ⟨0, 98, by omega, by omega, by decide⟩
  have g3 : Good (toL (Str.ofString ".a")) := .inr ⟨1, 97, by omega, by omega, by decide⟩
  have g4 : Good (toL (Str.ofString "..a")) := .inr ⟨2, 97, by omega, by omega, by decide⟩
  rcases hp with rfl | rfl | rfl | rfl | rfl | rfl | rfl | rfl | rfl | rfl | rfl | rfl <;> assumption
theorem parts_good (zs : List Int) : ∀ p ∈ partsOf zs, Good (toL p) := by
  intro p hp
  unfold partsOf at hp
  obtain ⟨k, _, rfl⟩ := List.mem_map.mp hp
  exact menu_good rfl (part_mem _ _)

theorem plain_law : PlainLaw := by
  intro zs
  have hn : (textOf zs).length + 1 = 6 := by rw [len_text]
  have hg := parts_good zs
  have hl := len_parts zs
  have whole := tab_told hn hg
  constructor
  · intro f g hf hg3 hg5
    have t1 := tab_told (qs := (partsOf zs).take f) hn fun q hq => hg q (List.mem_of_mem_take hq)
    have t2 := tab_told (qs := ((partsOf zs).drop f).take (g - f)) hn fun q hq => hg q (List.mem_of_mem_drop (List.mem_of_mem_take hq))
    have t3 := tab_told (qs := (partsOf zs).drop g) hn fun q hq => hg q (List.mem_of_mem_drop hq)
    have hG : (toL (textOf zs)).length + 1 = 6 := by rw [toL_len]; exact hn
    have j1 := tab_join hG t1 t2
    have j1' : IsTab 6 (toL (textOf zs)) (MatP (((partsOf zs).take f).map toL ++ (((partsOf zs).drop f).take (g - f)).map toL)) _ := ⟨j1.1, fun i j hi hj => by rw [j1.2 i j hi hj, mat_append]⟩
    have j2 := tab_join hG j1' t3
    refine tab_ext j2 whole fun s => ?_
    rw [← mat_append, ← List.map_append, ← List.map_append]
    have e : (partsOf zs).take f ++ ((partsOf zs).drop f).take (g - f) ++ (partsOf zs).drop g = partsOf zs := by
      have e1 : (partsOf zs).take f ++ ((partsOf zs).drop f).take (g - f) = (partsOf zs).take g := by
        rw [← List.take_add, show f + (g - f) = g by omega]
      rw [e1, List.take_append_drop]
    rw [e]
  · obtain ⟨p, ps, hps⟩ : ∃ p ps, partsOf zs = p :: ps := by
      cases h : partsOf zs with
      | nil => rw [h] at hl; simp at hl
      | cons p ps => exact ⟨p, ps, rfl⟩
    rw [hps] at whole ⊢
    rw [List.headD_cons, List.tail_cons]
    have := tab_fold hn ps [toL p] _ (tab_plain hn)
    exact tab_ext this whole fun s => by simp
end Mine

set_option maxHeartbeats 8000000 in
theorem PySem.Challenge.cw_mr0117_01_holds : PySem.Challenge.rw_mr0117_01.Holds := by
  refine Mine.hd ?_
  k_fill
  intro w s₀ s₁ mg mb G Y fa o pm cd doc dV kV ho hd hcd hD hmg hg args vals as hpre hlay hrd hwl hlo
  have KX := kIn_of Y
  refine Ground.open G ?_
  intro T B D TE TW
  wrow_args hpre hlay hrd hwl hlo
  refine enter_call ?_
  refine codeAny_mono ?_ (fun _ _ g => GoodW.toG g)
  have e : mg (Str.ofString "law") = some (Value.ref 62) := mg_of KX T.g (by rfl)
  have e2 : some (Value.ref fa) = some (Value.ref 62) := hmg.symm.trans e
  have e3 : fa = 62 := by injection e2 with e2; injection e2
  subst e3
  refine Mine.law_spec Mine.plain_law ⟨KX, _, _, _, _, topRead_of T⟩ (by decide) (by rfl) (by decide) (by assumption) (by assumption) (by omega) ?_
  rintro s' ⟨h', tk, rfl, hk⟩
  exact ⟨.inl ⟨.bool true, .bool true, [], rfl, fun _ => rfl, .bool true, postW_of rfl rfl (same_self _), unshared_nil⟩, hk, rfl, hg⟩
